import PyProof.Rows.All
import Wide.All
import OpenK.AllK
import Wide.FinOn
import Lean
import PySem.Challenge.RW_zo0038_01
open PySem PySem.W PyProof.Rows
set_option Elab.async false
set_option maxRecDepth 100000
set_option maxHeartbeats 8000000
set_option linter.unusedVariables false
set_option compiler.extract_closed false
namespace Mine
section
/-- the top's run, its heap a tree; its steps by the library's quick twins -/
noncomputable def topT (tb : String → Option Builtin) (p : Program) (w : World) (n₀ : Nat) (ann : Option Value) : Nat → SharedT → Thread → Option SharedT
  | 0, _, _ => none
  | n + 1, s, t => match through t with
    | true => some s
    | false => match Fast.tw6613529449190102663 n₀ ann t with
      | false => none
      | true => match Fast.tw10156331382660048174 (Fast.tw11892475500146522536 tb) p w s t with
        | some (s', t') => topT tb p w n₀ ann n s' t'
        | none => none
theorem topT_run {tb : String → Option Builtin} {p : Program} {w : World} {n₀ : Nat} {ann : Option Value} : ∀ {n : Nat} {s s' : SharedT} {t : Thread}, topT tb p w n₀ ann n s t = some s' → topRun tb p w n₀ ann n s.abs t = some s'.abs
  | 0, _, _, _, h => by cases h
  | n + 1, s, s', t, h => by
    unfold topT at h
    unfold topRun
    rw [← Fast.te6613529449190102663, ← Fast.te10156331382660048174, ← Fast.te11892475500146522536] at h
    cases e1 : through t with
    | true => rw [e1] at h; cases h; rfl
    | false =>
      rw [e1] at h
      cases e2 : stepOk n₀ ann t with
      | false => rw [e2] at h; cases h
      | true =>
        rw [e2] at h
        cases e3 : stepT (denote tb) p w s t with
        | none => rw [e3] at h; cases h
        | some r => obtain ⟨s₂, t₂⟩ := r; rw [e3] at h; rw [stepT_spec e3]; exact topT_run h

noncomputable def bootT (P : Params) : BT := ((boot_heap P).objs.toList.foldl (fun (x : BT × Nat) o => (x.1.ins x.2 o, x.2 + 1)) (.nil, 0)).1
theorem boot_abs (P : Params) : absHeap (bootT P) 11 {} = boot_heap P := by kernel_rfl
theorem boot_size (P : Params) : ((boot_heap P).isNs mainGlobals && (#[] : Array GenState).size == 0, (boot_heap P).objs.size, (boot_heap P).nsMap mainGlobals "__annotations__") = (true, 11, some (.ref 6)) := by kernel_rfl

theorem left_tree {p q : Program} {loose : List Str} {Xt : Shared → Bool} {α : Type} {Yf : Shared → α} {Ya : World → α} {N : Nat} (row : String)
    (ho : ∀ w : World, (fencedOpening treeTable p w N).map (fun s => (s.heap, s.gens, s.drawn, s.toks)) = some (boot_heap w.params, Array.mk [], boot_drawn, boot_toks))
    (h : ∀ b : Bool, ∀ (w : World) (os : OsState), (topT treeTable p (w.withFollow row b) 11 (some (.ref 6)) N ⟨bootT w.params, 11, {}, #[], boot_drawn, boot_toks, os⟩ (topStub p)).map (fun s =>
      (staticsOk (importedModules p.main.body) (boot_heap w.params) s.abs.heap && namesBound p s.abs.heap && gensDone s.abs && laidKept (boot_heap w.params) s.abs.heap, openSeen q loose (importedModules p.main.body) Xt true s.abs, Yf s.abs)) = some (true, openGood q loose, Ya (w.withFollow row b))) :
    LeftO p q loose Xt Yf Ya N := LeftO.of_split row fun w => by
  obtain ⟨s, h1, h2⟩ := Option.map_eq_some_iff.mp (ho w)
  rw [h1]
  obtain ⟨a, b, c, d, e⟩ := s
  obtain ⟨rfl, h2⟩ := Prod.mk.inj h2
  obtain ⟨rfl, h2⟩ := Prod.mk.inj h2
  obtain ⟨rfl, rfl⟩ := Prod.mk.inj h2
  have z := boot_size w.params
  simp only [Prod.mk.injEq] at z
  obtain ⟨z1, z2, z3⟩ := z
  have side (b : Bool) : (topFrom treeTable p (w.withFollow row b) N ⟨boot_heap w.params, #[], boot_drawn, boot_toks, e⟩).map (fun s => (openSeen q loose (importedModules p.main.body) Xt true s, Yf s)) = some (openGood q loose, Ya (w.withFollow row b)) := by
    obtain ⟨s, r, l⟩ := Option.map_eq_some_iff.mp (h b w e)
    obtain ⟨l1, l⟩ := Prod.mk.inj l
    have r := topT_run r
    have t : topFrom treeTable p (w.withFollow row b) N ⟨boot_heap w.params, #[], boot_drawn, boot_toks, e⟩ = some s.abs := by
      unfold topFrom
      dsimp only
      rw [z1, z2, z3]
      have r : topRun treeTable p (w.withFollow row b) 11 (some (.ref 6)) N ⟨absHeap (bootT w.params) 11 {}, #[], boot_drawn, boot_toks, e⟩ (topStub p) = some s.abs := r
      rw [boot_abs] at r
      rw [r]
      show (match staticsOk (importedModules p.main.body) (boot_heap w.params) s.abs.heap && namesBound p s.abs.heap && gensDone s.abs && laidKept (boot_heap w.params) s.abs.heap with | true => _ | false => _) = _
      rw [l1]
    rw [t]
    exact congrArg some l
  exact congrArg some (Prod.ext (side false) (side true))

section
local macro_rules | `(tactic| o_head $_) => `(tactic| skip)
theorem K0 (h : PySem.Challenge.rw_zo0038_01.row.Holds) : PySem.Challenge.rw_zo0038_01.row.Holds := by
  k_head
  exact h
end
end

section
noncomputable abbrev hView : Program := view PySem.Challenge.pw_zo0038_01 [0, 2, 4, 5, 6, 7, 9, 10, 11, 12, 13, 14, 15, 17, 18, 19, 20, 21, 22, 23, 24, 25, 26, 27]
noncomputable abbrev hHook : Hook := kHook K0.heap_1 [2, 3, 15, 17, 18, 20, 21, 32, 34, 35, 37, 38, 39, 41, 42, 44, 45, 46, 48, 49, 51, 52, 53, 55, 56, 58, 59, 60, 62, 63, 65, 66, 67, 69, 70, 72, 73, 74, 76, 77, 79, 80, 81, 82, 83, 84, 85, 95, 97, 98, 100, 101, 102, 104, 105, 107, 108, 109, 110, 111, 112, 113, 116, 118, 119, 121, 122, 123, 125, 126, 128, 129, 130, 132, 133, 135, 136, 144, 145, 147, 148, 150, 151, 152, 154, 155, 157, 158, 159, 161, 162, 164, 165, 166, 168, 169, 171, 172, 173, 175, 176, 178, 179, 180, 182, 183, 185, 186, 187, 189, 190, 192, 193, 194, 196, 197, 199, 200, 201, 203, 204, 206, 207, 208, 209, 210, 211, 212, 215, 217, 218, 220, 221, 222, 224, 225, 227, 228, 229, 231, 232, 234, 235, 236, 238, 239, 241, 242, 243, 245, 246, 248, 249, 250, 252, 253, 255, 256, 257, 259, 260, 262, 263, 264, 266, 267, 269, 270, 271, 273, 274, 276, 277, 278, 280, 281, 283, 284, 285, 288, 289, 290, 292, 293, 295, 296, 297, 299, 300, 302, 303, 304, 306, 307, 309, 310, 311, 313, 314, 316, 317, 318, 320, 321, 323, 324, 325, 328, 329] (fun _ => by kernel_rfl)
noncomputable abbrev hXt : Shared → Bool := fun s => xlAt hView [] s && recOk [] s
/-- the top's run and the looks at its end -/
noncomputable def Ends (b : Bool) : Prop := ∀ (w : World) (os : OsState), (topT Fast.tw14364793385576792824 PySem.Challenge.pw_zo0038_01 (w.withFollow "special-get-raises" b) 11 (some (.ref 6)) 3986 ⟨bootT w.params, 11, {}, #[], boot_drawn, boot_toks, os⟩ (topStub PySem.Challenge.pw_zo0038_01)).map (fun s =>
      (staticsOk (importedModules (PySem.Challenge.pw_zo0038_01).main.body) (boot_heap w.params) s.abs.heap && namesBound PySem.Challenge.pw_zo0038_01 s.abs.heap && gensDone s.abs && laidKept (boot_heap w.params) s.abs.heap,
        Fast.tw4187177175401517315 hView ["Whitespace"] (importedModules (PySem.Challenge.pw_zo0038_01).main.body) hXt true s.abs, hHook.obs s.abs)) = some (true, openGood hView ["Whitespace"], hHook.val (w.withFollow "special-get-raises" b))
theorem ends0 : Ends false := by
  intro w os
  kernel_rfl
theorem ends1 : Ends true := by
  intro w os
  kernel_rfl
theorem said : PySem.Challenge.rw_zo0038_01.wellSaid = true := by
  unfold OpenLaw.wellSaid
  unfold OpenRow.wellSaid
  unfold OpenRow.partSaid
  unfold looksOpen
  repeat' with_reducible refine look_both ?_ ?_
  all_goals decide +kernel
theorem opens : opening PySem.Challenge.pw_zo0038_01 = plainProg (PySem.Challenge.pw_zo0038_01).main.scope.names := by kernel_rfl
theorem fences : ∀ s, fenceModules? PySem.Challenge.pw_zo0038_01 s = some s := by intro s; kernel_rfl
theorem left : LeftO PySem.Challenge.pw_zo0038_01 hView ["Whitespace"] hXt hHook.obs hHook.val 3986 :=
  left_tree "special-get-raises" (boot_open opens (by decide) fences) fun b => by
    have e : Ends b := match b with | false => ends0 | true => ends1
    unfold Ends at e
    rw [← Fast.te14364793385576792824, ← Fast.te4187177175401517315] at e
    exact e
end

open PySem.Calls
section

noncomputable abbrev GMap := Addr → Option Obj

inductive D where
  | none
  | bool (b : Bool)
  | int (i : Int)
  | str (s : Str)
  | tup (l : List D)
  | lst (l : List D)
  | dic (l : List (Str × D))
  | obj (c : Addr) (fs : List (Str × D))
  | glob (a : Addr)

noncomputable abbrev tupO (vs : List Value) (n : Nat) : Obj := { cls := .type "tuple", data := .seq vs.toArray n }
noncomputable abbrev lstO (vs : List Value) (n : Nat) : Obj := { cls := .type "list", data := .seq vs.toArray n }

section
variable (prog : Program) (w : World)

mutual
inductive Rep (G : GMap) : Value → D → Prop
  | none : Rep G .none .none
  | bool (b : Bool) : Rep G (.bool b) (.bool b)
  | int (i : Int) (t : Tok) : Rep G (.int i t) (.int i)
  | str (x : Str) (t : Tok) : Rep G (.str x t) (.str x)
  | glob (a : Addr) : Rep G (.ref a) (.glob a)
  | tup {a : Addr} {vs : List Value} {n : Nat} {ds : List D} : G a = some (tupO vs n) → RepL G vs ds → Rep G (.ref a) (.tup ds)
  | lst {a : Addr} {vs : List Value} {n : Nat} {ds : List D} : G a = some (lstO vs n) → RepL G vs ds → Rep G (.ref a) (.lst ds)
  | dic {a : Addr} {o : Obj} {kvs : List (Str × Value)} {ds : List (Str × D)} : (a == sysModules) = false → G a = some o → o.IsDictOf (strKind prog w) kvs → RepK G kvs ds → Rep G (.ref a) (.dic ds)
  | obj {a dx c : Addr} {es : List DictEntry} {n : Nat} {fs : List (Str × D)} : G a = some (instObj c dx) → G dx = some (dictOf es n) → RepF G es fs → Rep G (.ref a) (.obj c fs)
inductive RepL (G : GMap) : List Value → List D → Prop
  | nil : RepL G [] []
  | cons {v : Value} {d : D} {vs : List Value} {ds : List D} : Rep G v d → RepL G vs ds → RepL G (v :: vs) (d :: ds)
inductive RepK (G : GMap) : List (Str × Value) → List (Str × D) → Prop
  | nil : RepK G [] []
  | cons {k : Str} {v : Value} {d : D} {vs : List (Str × Value)} {ds : List (Str × D)} : Rep G v d → RepK G vs ds → RepK G ((k, v) :: vs) ((k, d) :: ds)
inductive RepF (G : GMap) : List DictEntry → List (Str × D) → Prop
  | nil : RepF G [] []
  | cons {k : Str} {t : Tok} {hs : Int} {v : Value} {d : D} {vs : List DictEntry} {ds : List (Str × D)} : Rep G v d → RepF G vs ds → RepF G (⟨hs, .str k t, v⟩ :: vs) ((k, d) :: ds)
end
end

noncomputable def GLe (G G' : GMap) : Prop := ∀ a o, G a = some o → G' a = some o
theorem GLe.refl (G : GMap) : GLe G G := fun _ _ e => e
theorem GLe.trans {G G' G'' : GMap} (x : GLe G G') (y : GLe G' G'') : GLe G G'' := fun a o e => y a o (x a o e)

section
variable {prog : Program} {w : World} {G G' : GMap}

theorem Rep.mono (k : GLe G G') {v : Value} {d : D} (r : Rep prog w G v d) : Rep prog w G' v d :=
  Rep.rec (motive_1 := fun v d _ => Rep prog w G' v d) (motive_2 := fun v d _ => RepL prog w G' v d) (motive_3 := fun v d _ => RepK prog w G' v d) (motive_4 := fun v d _ => RepF prog w G' v d)
    .none .bool .int .str .glob (fun h _ l => .tup (k _ _ h) l) (fun h _ l => .lst (k _ _ h) l) (fun s h x _ l => .dic s (k _ _ h) x l) (fun h g _ l => .obj (k _ _ h) (k _ _ g) l) .nil (fun _ _ a l => .cons a l) .nil (fun _ _ a l => .cons a l) .nil (fun _ _ a l => .cons a l) r
theorem RepL.mono (k : GLe G G') {v : List Value} {d : List D} (r : RepL prog w G v d) : RepL prog w G' v d :=
  RepL.rec (motive_1 := fun v d _ => Rep prog w G' v d) (motive_2 := fun v d _ => RepL prog w G' v d) (motive_3 := fun v d _ => RepK prog w G' v d) (motive_4 := fun v d _ => RepF prog w G' v d)
    .none .bool .int .str .glob (fun h _ l => .tup (k _ _ h) l) (fun h _ l => .lst (k _ _ h) l) (fun s h x _ l => .dic s (k _ _ h) x l) (fun h g _ l => .obj (k _ _ h) (k _ _ g) l) .nil (fun _ _ a l => .cons a l) .nil (fun _ _ a l => .cons a l) .nil (fun _ _ a l => .cons a l) r
theorem RepK.mono (k : GLe G G') {v : List (Str × Value)} {d : List (Str × D)} (r : RepK prog w G v d) : RepK prog w G' v d :=
  RepK.rec (motive_1 := fun v d _ => Rep prog w G' v d) (motive_2 := fun v d _ => RepL prog w G' v d) (motive_3 := fun v d _ => RepK prog w G' v d) (motive_4 := fun v d _ => RepF prog w G' v d)
    .none .bool .int .str .glob (fun h _ l => .tup (k _ _ h) l) (fun h _ l => .lst (k _ _ h) l) (fun s h x _ l => .dic s (k _ _ h) x l) (fun h g _ l => .obj (k _ _ h) (k _ _ g) l) .nil (fun _ _ a l => .cons a l) .nil (fun _ _ a l => .cons a l) .nil (fun _ _ a l => .cons a l) r
theorem RepF.mono (k : GLe G G') {v : List DictEntry} {d : List (Str × D)} (r : RepF prog w G v d) : RepF prog w G' v d :=
  RepF.rec (motive_1 := fun v d _ => Rep prog w G' v d) (motive_2 := fun v d _ => RepL prog w G' v d) (motive_3 := fun v d _ => RepK prog w G' v d) (motive_4 := fun v d _ => RepF prog w G' v d)
    .none .bool .int .str .glob (fun h _ l => .tup (k _ _ h) l) (fun h _ l => .lst (k _ _ h) l) (fun s h x _ l => .dic s (k _ _ h) x l) (fun h g _ l => .obj (k _ _ h) (k _ _ g) l) .nil (fun _ _ a l => .cons a l) .nil (fun _ _ a l => .cons a l) .nil (fun _ _ a l => .cons a l) r

theorem RepL.none {vs : List Value} (r : RepL prog w G vs []) : vs = [] := by
  cases r; rfl
theorem RepL.more {vs : List Value} {d : D} {ds : List D} (r : RepL prog w G vs (d :: ds)) : ∃ v us, vs = v :: us ∧ Rep prog w G v d ∧ RepL prog w G us ds := by
  cases r with
  | cons a b => exact ⟨_, _, rfl, a, b⟩
theorem RepK.none {kvs : List (Str × Value)} (r : RepK prog w G kvs []) : kvs = [] := by
  cases r; rfl
theorem RepK.more {kvs : List (Str × Value)} {k : Str} {d : D} {ds : List (Str × D)} (r : RepK prog w G kvs ((k, d) :: ds)) : ∃ v us, kvs = (k, v) :: us ∧ Rep prog w G v d ∧ RepK prog w G us ds := by
  cases r with
  | cons a b => exact ⟨_, _, rfl, a, b⟩
theorem RepF.none {es : List DictEntry} (r : RepF prog w G es []) : es = [] := by
  cases r; rfl
theorem RepF.more {es : List DictEntry} {k : Str} {d : D} {fs : List (Str × D)} (r : RepF prog w G es ((k, d) :: fs)) : ∃ hs t v us, es = ⟨hs, .str k t, v⟩ :: us ∧ Rep prog w G v d ∧ RepF prog w G us fs := by
  cases r with
  | cons a b => exact ⟨_, _, _, _, rfl, a, b⟩
theorem RepL.length {vs : List Value} {ds : List D} (r : RepL prog w G vs ds) : vs.length = ds.length := by
  induction ds generalizing vs with
  | nil => rw [r.none]; rfl
  | cons d ds ih =>
    obtain ⟨v, us, rfl, _, l⟩ := r.more
    exact congrArg (· + 1) (ih l)
theorem RepL.get {vs : List Value} {ds : List D} (r : RepL prog w G vs ds) (i : Nat) (d : D) (e : ds[i]? = some d) : ∃ v, vs[i]? = some v ∧ Rep prog w G v d := by
  induction ds generalizing vs i with
  | nil => cases e
  | cons d' ds ih =>
    obtain ⟨v, us, rfl, h, l⟩ := r.more
    cases i with
    | zero => cases e; exact ⟨v, rfl, h⟩
    | succ i => exact ih l i (by simpa using e)
theorem RepL.append {vs us : List Value} {ds es : List D} (r : RepL prog w G vs ds) (y : RepL prog w G us es) : RepL prog w G (vs ++ us) (ds ++ es) := by
  induction ds generalizing vs with
  | nil => rw [r.none]; exact y
  | cons d ds ih =>
    obtain ⟨v, us', rfl, h, l⟩ := r.more
    exact .cons h (ih l)
theorem RepL.take {vs : List Value} {ds : List D} (r : RepL prog w G vs ds) (n : Nat) : RepL prog w G (vs.take n) (ds.take n) := by
  induction ds generalizing vs n with
  | nil => rw [r.none, List.take_nil, List.take_nil]; exact .nil
  | cons d ds ih =>
    obtain ⟨v, us', rfl, h, l⟩ := r.more
    cases n with
    | zero => exact .nil
    | succ n => exact .cons h (ih l n)
theorem RepL.drop {vs : List Value} {ds : List D} (r : RepL prog w G vs ds) (n : Nat) : RepL prog w G (vs.drop n) (ds.drop n) := by
  induction ds generalizing vs n with
  | nil => rw [r.none, List.drop_nil, List.drop_nil]; exact .nil
  | cons d ds ih =>
    obtain ⟨v, us', rfl, h, l⟩ := r.more
    cases n with
    | zero => exact .cons h l
    | succ n => exact ih l n
theorem RepL.single {v : Value} {d : D} (h : Rep prog w G v d) : RepL prog w G [v] [d] := .cons h .nil
theorem RepL.replicate {v : Value} {d : D} (h : Rep prog w G v d) : ∀ n, RepL prog w G (List.replicate n v) (List.replicate n d)
  | 0 => .nil
  | n + 1 => .cons h (RepL.replicate h n)
theorem RepL.set {v : Value} {d : D} (h : Rep prog w G v d) {vs : List Value} {ds : List D} (r : RepL prog w G vs ds) (n : Nat) : RepL prog w G (vs.set n v) (ds.set n d) := by
  induction ds generalizing vs n with
  | nil => rw [r.none]; exact .nil
  | cons d ds ih =>
    obtain ⟨v, us', rfl, g, l⟩ := r.more
    cases n with
    | zero => exact .cons h l
    | succ n => exact .cons g (ih l n)
end

/-- an expression's heap step: all that stood stands, the frozen part grows by what is new -/
structure Grow (G : GMap) (h : Heap) (G' : GMap) (h' : Heap) : Prop where
  gg : GLe G G'
  gh : ∀ a o, G' a = some o → h'.get? a = some o
  hh : ∀ a o, h.get? a = some o → h'.get? a = some o
  new : ∀ a o, h.get? a = some o → G a = Option.none → G' a = Option.none

theorem Grow.refl {G : GMap} {h : Heap} (k : ∀ a o, G a = some o → h.get? a = some o) : Grow G h G h := ⟨GLe.refl _, k, fun _ _ e => e, fun _ _ _ e => e⟩
theorem Grow.trans {G G₁ G₂ : GMap} {h h₁ h₂ : Heap} (x : Grow G h G₁ h₁) (y : Grow G₁ h₁ G₂ h₂) : Grow G h G₂ h₂ :=
  ⟨x.gg.trans y.gg, y.gh, fun a o e => y.hh a o (x.hh a o e), fun a o e n => y.new a o (x.hh a o e) (x.new a o e n)⟩

/-- a heap that grows only, nothing frozen anew -/
theorem Grow.heap {G : GMap} {h h' : Heap} (k : ∀ a o, G a = some o → h.get? a = some o) (hh : ∀ a o, h.get? a = some o → h'.get? a = some o) : Grow G h G h' :=
  ⟨GLe.refl _, fun a o e => hh a o (k a o e), hh, fun _ _ _ e => e⟩

/-- freeze one address -/
noncomputable def GMap.put (G : GMap) (a : Addr) (o : Obj) : GMap := fun b => if b = a then some o else G b
theorem GMap.put_self (G : GMap) (a : Addr) (o : Obj) : G.put a o a = some o := if_pos rfl
theorem GMap.put_ne {G : GMap} {a b : Addr} {o : Obj} (h : b ≠ a) : G.put a o b = G b := if_neg h
theorem GMap.put_le {G : GMap} {a : Addr} {o : Obj} (h : G a = Option.none) : GLe G (G.put a o) := fun b o' e => by
  by_cases q : b = a
  · subst q; rw [h] at e; cases e
  · rw [GMap.put_ne q]; exact e

theorem gnone {G : GMap} {h : Heap} (k : ∀ a o, G a = some o → h.get? a = some o) {a : Addr} (e : h.get? a = Option.none) : G a = Option.none := by
  cases q : G a with
  | none => rfl
  | some o => rw [k a o q] at e; cases e

theorem get_size (h : Heap) : h.get? h.objs.size = Option.none := by
  cases q : h.get? h.objs.size with
  | none => rfl
  | some o => exact absurd (Heap.lt_size q) (Nat.lt_irrefl _)

/-- a new object, frozen at once -/
theorem Grow.fresh {G : GMap} {h h' : Heap} {a : Addr} {o : Obj} (k : ∀ a o, G a = some o → h.get? a = some o) (hn : h.get? a = Option.none) (hh : ∀ a o, h.get? a = some o → h'.get? a = some o)
    (ho : h'.get? a = some o) : Grow G h (G.put a o) h' := by
  refine ⟨GMap.put_le (gnone k hn), fun b o' e => ?_, hh, fun b o' e n => ?_⟩
  · by_cases q : b = a
    · subst q; rw [GMap.put_self] at e; cases e; exact ho
    · rw [GMap.put_ne q] at e; exact hh b o' (k b o' e)
  · by_cases q : b = a
    · subst q; rw [hn] at e; cases e
    · rw [GMap.put_ne q]; exact n

theorem Grow.push {G : GMap} {h : Heap} {o : Obj} (k : ∀ a o, G a = some o → h.get? a = some o) (hf : o.isFreed = false := by rfl) : Grow G h (G.put h.objs.size o) (h.push o) :=
  Grow.fresh k (get_size h) (fun _ _ e => Heap.get?_push_of_some _ e) (Heap.get?_push_size _ hf)

structure Cx where
  A : Around
  env : PySem.Env
  mu : List Str
  own : Bool
  pin : Option (Str × Value)
  fuel : Nat
  handled : A.handled = Option.none
  depth : A.depth + fuel < recursionLimit
  units : A.units + 20 * fuel < cLine
  kind : env.scope.kind = .function
  globals : env.globals = mainGlobals
  builtins : env.builtins = builtinsNs
  pinMu : ∀ p, pin = some p → mu.contains p.1 = true

noncomputable def Cx.PinAt (cx : Cx) (h : Heap) : Prop := ∀ p, cx.pin = some p → ∃ m, h.Ns cx.env.locals m ∧ m p.1 = some p.2

structure Base (K : Frag) where
  mg : Str → Option Value
  mb : Str → Option Value
  h : Heap
  X : K.In h
  g : h.Ns mainGlobals mg
  b : h.Ns builtinsNs mb
  nolim : h.NoLimit
  bt : ∀ x : Str, x ≠ "__name__" → mb x = bootBuiltins x

section
variable (prog : Program) (w : World)

inductive Mut (G : GMap) (h : Heap) : Value → Addr → D → Prop
  | lst {a : Addr} {vs : List Value} {n : Nat} {ds : List D} : h.get? a = some (lstO vs n) → RepL prog w G vs ds → Mut G h (.ref a) a (.lst ds)
  | dic {a : Addr} {o : Obj} {kvs : List (Str × Value)} {ds : List (Str × D)} : (a == sysModules) = false → h.get? a = some o → o.IsDictOf (strKind prog w) kvs → RepK prog w G kvs ds → Mut G h (.ref a) a (.dic ds)
  | obj {a xa c : Addr} {es : List DictEntry} {n : Nat} {fs : List (Str × D)} : G xa = some (instObj c a) → h.get? a = some (dictOf es n) → RepF prog w G es fs → Mut G h (.ref xa) a (.obj c fs)

inductive Var (G : GMap) (h : Heap) (cx : Cx) (m : Str → Option Value) (μ : List (Str × Addr)) (x : Str) (d : D) : Prop
  | loc {v : Value} : cx.env.kindOf x = some .local → cx.mu.contains x = false → m x = some v → Rep prog w G v d → Var G h cx m μ x d
  | own {a : Addr} {v : Value} : cx.env.kindOf x = some .local → cx.mu.contains x = true → μ.lookup x = some a → m x = some v → Mut prog w G h v a d → Var G h cx m μ x d
  | cell {c : Addr} {v : Value} : cx.env.kindOf x = some .cell ∨ cx.env.kindOf x = some .free → cx.mu.contains x = false → cx.env.cells.lookup x = some c → h.IsCell c (some v) → Rep prog w G v d → Var G h cx m μ x d

structure St {K : Frag} (B : Base K) (cx : Cx) (O : List Addr) (G : GMap) (h : Heap) (ρ : List (Str × D)) : Prop where
  base : ∀ a o, B.h.get? a = some o → G a = some o
  keep : ∀ a o, G a = some o → h.get? a = some o
  own : ∀ a ∈ O, G a = Option.none ∧ ∃ o, h.get? a = some o
  cells : cx.own = true → (cx.env.cells.map (·.2)).Nodup ∧ ∀ p ∈ cx.env.cells, p.2 ∈ O ∧ ∃ v, h.IsCell p.2 v
  pin : cx.PinAt h
  fr : ∃ (m : Str → Option Value) (μ : List (Str × Addr)), h.Ns cx.env.locals m ∧ (cx.env.locals :: μ.map (·.2)).Nodup ∧ (∀ a ∈ cx.env.locals :: μ.map (·.2), a ∈ O) ∧
    ∀ x d, ρ.lookup x = some d → Var prog w G h cx m μ x d
end

section
variable {prog : Program} {w : World} {K : Frag} {B : Base K} {cx : Cx} {O : List Addr} {G G' : GMap} {h h' : Heap} {ρ : List (Str × D)}

theorem Mut.grow {v : Value} {a : Addr} {d : D} (k : GLe G G') (e : h'.get? a = h.get? a) : Mut prog w G h v a d → Mut prog w G' h' v a d
  | .lst h1 h2 => .lst (e.trans h1) (h2.mono k)
  | .dic h1 h2 h3 h4 => .dic h1 (e.trans h2) h3 (h4.mono k)
  | .obj h1 h2 h3 => .obj (k _ _ h1) (e.trans h2) (h3.mono k)

theorem Mut.exists {v : Value} {a : Addr} {d : D} : Mut prog w G h v a d → ∃ o, h.get? a = some o
  | .lst h1 _ => ⟨_, h1⟩
  | .dic _ h2 _ _ => ⟨_, h2⟩
  | .obj _ h2 _ => ⟨_, h2⟩

theorem Mut.notCell {v : Value} {a c : Addr} {d : D} {x : Option Value} (M : Mut prog w G h v a d) (y : h.IsCell c x) : c ≠ a := by
  rintro rfl
  obtain ⟨o, h1, h2⟩ := y
  cases M with
  | lst e _ => rw [e] at h1; cases h1; cases h2
  | dic _ e q _ => obtain ⟨es, ep, _, hd, _⟩ := q; rw [e] at h1; cases h1; rw [hd] at h2; cases h2
  | obj _ e _ => rw [e] at h1; cases h1; cases h2

theorem St.grow (S : St prog w B cx O G h ρ) (k : Grow G h G' h') : St prog w B cx O G' h' ρ := by
  refine ⟨fun a o e => k.gg a o (S.base a o e), k.gh, fun a ha => ?_, fun ho => ⟨(S.cells ho).1, fun p hp => ?_⟩, fun p hp => (by obtain ⟨m, e1, e2⟩ := S.pin p hp; exact ⟨m, e1.keeps k.hh, e2⟩), ?_⟩
  · obtain ⟨h1, o, h2⟩ := S.own a ha
    exact ⟨k.new a o h2 h1, o, k.hh a o h2⟩
  · obtain ⟨h1, v, h2⟩ := (S.cells ho).2 p hp
    exact ⟨h1, v, h2.keeps k.hh⟩
  · obtain ⟨m, μ, hns, hnd, hin, hv⟩ := S.fr
    refine ⟨m, μ, hns.keeps k.hh, hnd, hin, fun x d e => ?_⟩
    cases hv x d e with
    | loc h1 h2 h3 h4 => exact .loc h1 h2 h3 (h4.mono k.gg)
    | own h1 h2 h3 h4 h5 =>
      obtain ⟨o, ho⟩ := h5.exists
      exact .own h1 h2 h3 h4 (h5.grow k.gg ((k.hh _ _ ho).trans ho.symm))
    | cell h1 h2 h3 h4 h5 => exact .cell h1 h2 h3 (h4.keeps k.hh) (h5.mono k.gg)

theorem St.weaken {ρ' : List (Str × D)} (S : St prog w B cx O G h ρ) (k : ∀ x d, ρ'.lookup x = some d → ρ.lookup x = some d) : St prog w B cx O G h ρ' := by
  obtain ⟨m, μ, hns, hnd, hin, hv⟩ := S.fr
  exact ⟨S.base, S.keep, S.own, S.cells, S.pin, m, μ, hns, hnd, hin, fun x d e => hv x d (k x d e)⟩

theorem cell_ne_ns {c L : Addr} {v : Option Value} {m : Str → Option Value} (x : h.IsCell c v) (y : h.Ns L m) : c ≠ L := by
  rintro rfl
  obtain ⟨o, h1, h2⟩ := x
  obtain ⟨o', es, ep, h3, h4, _⟩ := y
  rw [h1] at h3; cases h3; rw [h2] at h4; cases h4

theorem inj_of_nodup {α β : Type} {f : α → β} : ∀ {l : List α}, (l.map f).Nodup → ∀ {x y : α}, x ∈ l → y ∈ l → f x = f y → x = y
  | [], _, _, _, h, _, _ => nomatch h
  | a :: l, hn, x, y, hx, hy, e => by
    obtain ⟨h1, h2⟩ := List.nodup_cons.mp hn
    rcases List.mem_cons.mp hx with p | p
    · rcases List.mem_cons.mp hy with q | q
      · rw [p, q]
      · exact (h1 (List.mem_map.mpr ⟨y, q, by rw [← e, p]⟩)).elim
    · rcases List.mem_cons.mp hy with q | q
      · exact (h1 (List.mem_map.mpr ⟨x, p, by rw [e, q]⟩)).elim
      · exact inj_of_nodup h2 p q e

theorem lookup_cons_eq {x : Str} {d : D} : List.lookup x ((x, d) :: ρ) = some d := by simp [List.lookup]
theorem lookup_cons_ne {x y : Str} {d : D} (h : y ≠ x) : List.lookup y ((x, d) :: ρ) = ρ.lookup y := by
  rw [List.lookup_cons]
  have : (y == x) = false := by simpa using h
  rw [this]

/-- a plain local is stored -/
theorem St.store {x : Str} {d : D} {v : Value} (S : St prog w B cx O G h ρ) (hk : cx.env.kindOf x = some .local) (hm : cx.mu.contains x = false) (hr : Rep prog w G v d)
    (hm0 : ∀ m₀, h.Ns cx.env.locals m₀ → ∃ m', h'.Ns cx.env.locals m' ∧ ∀ y, m' y = if y = x then some v else m₀ y) (hs : Heap.SameBut cx.env.locals h h') :
    St prog w B cx O G h' ((x, d) :: ρ) := by
  obtain ⟨m, μ, hns, hnd, hin, hv⟩ := S.fr
  obtain ⟨m', hns', hm'⟩ := hm0 m hns
  have hL := (S.own cx.env.locals (hin _ (List.mem_cons_self ..))).1
  have exL : ∃ o, h'.get? cx.env.locals = some o := by obtain ⟨o, _, _, e, _⟩ := hns'; exact ⟨o, e⟩
  have ne : ∀ a o, G a = some o → a ≠ cx.env.locals := fun a o e q => by subst q; rw [hL] at e; cases e
  refine ⟨S.base, fun a o e => (hs.2 a (ne a o e)).trans (S.keep a o e), fun a ha => ⟨(S.own a ha).1, ?_⟩, fun ho => ⟨(S.cells ho).1, fun p hp => ?_⟩, fun p hp => (by
    obtain ⟨m₁, e1, e2⟩ := S.pin p hp
    obtain ⟨m₂, f1, f2⟩ := hm0 m₁ e1
    refine ⟨m₂, f1, ?_⟩
    rw [f2, if_neg (fun q => by have := cx.pinMu p hp; rw [q, hm] at this; cases this)]
    exact e2), m', μ, hns', hnd, hin, fun y d' e => ?_⟩
  · by_cases q : a = cx.env.locals
    · subst q; exact exL
    · obtain ⟨_, o, h2⟩ := S.own a ha; exact ⟨o, (hs.2 a q).trans h2⟩
  · obtain ⟨h1, v', h2⟩ := (S.cells ho).2 p hp
    exact ⟨h1, v', h2.sameBut hs (cell_ne_ns h2 hns)⟩
  · by_cases q : y = x
    · subst q; rw [lookup_cons_eq] at e; cases e
      exact .loc hk hm (by rw [hm', if_pos rfl]) hr
    · rw [lookup_cons_ne q] at e
      cases hv y d' e with
      | loc h1 h2 h3 h4 => exact .loc h1 h2 (by rw [hm', if_neg q]; exact h3) h4
      | own h1 h2 h3 h4 h5 =>
        rename_i a v'
        have ha : a ∈ μ.map (·.2) := List.mem_map.mpr ⟨(y, a), mem_of_lookup h3, rfl⟩
        have na : a ≠ cx.env.locals := fun z => by
          rw [z] at ha
          exact (List.nodup_cons.mp hnd).1 ha
        exact .own h1 h2 h3 (by rw [hm', if_neg q]; exact h4) (h5.grow (GLe.refl _) (hs.2 a na))
      | cell h1 h2 h3 h4 h5 => exact .cell h1 h2 h3 (h4.sameBut hs (cell_ne_ns h4 hns)) h5

/-- what a mutable name holds, and how it may be turned -/
theorem St.turn {x : Str} {d : D} (S : St prog w B cx O G h ρ) (hl : ρ.lookup x = some d) (hm : cx.mu.contains x = true) :
    ∃ m v a, cx.env.kindOf x = some .local ∧ h.Ns cx.env.locals m ∧ m x = some v ∧ Mut prog w G h v a d ∧ a ∈ O ∧ a ≠ cx.env.locals ∧
      ∀ h' d', Heap.SameBut a h h' → Mut prog w G h' v a d' → St prog w B cx O G h' ((x, d') :: ρ) := by
  obtain ⟨m, μ, hns, hnd, hin, hv⟩ := S.fr
  cases hv x d hl with
  | loc _ h2 _ _ => rw [hm] at h2; cases h2
  | cell _ h2 _ _ _ => rw [hm] at h2; cases h2
  | own h1 h2 h3 h4 h5 =>
    rename_i a v
    have ha : a ∈ μ.map (·.2) := List.mem_map.mpr ⟨(x, a), mem_of_lookup h3, rfl⟩
    have hO := hin a (List.mem_cons_of_mem _ ha)
    have na : a ≠ cx.env.locals := fun z => by
      rw [z] at ha
      exact (List.nodup_cons.mp hnd).1 ha
    refine ⟨m, v, a, h1, hns, h4, h5, hO, na, fun h' d' hs M' => ?_⟩
    have hG := (S.own a hO).1
    have ne : ∀ b o, G b = some o → b ≠ a := fun b o e q => by subst q; rw [hG] at e; cases e
    refine ⟨S.base, fun b o e => (hs.2 b (ne b o e)).trans (S.keep b o e), fun b hb => ⟨(S.own b hb).1, ?_⟩, fun ho => ⟨(S.cells ho).1, fun p hp => ?_⟩, fun p hp => (by obtain ⟨m₁, e1, e2⟩ := S.pin p hp; exact ⟨m₁, e1.sameBut hs (Ne.symm na), e2⟩), m, μ, hns.sameBut hs (Ne.symm na), hnd, hin, fun y d'' e => ?_⟩
    · by_cases q : b = a
      · subst q; exact M'.exists
      · obtain ⟨_, o, h2⟩ := S.own b hb; exact ⟨o, (hs.2 b q).trans h2⟩
    · obtain ⟨z1, v', z2⟩ := (S.cells ho).2 p hp
      exact ⟨z1, v', z2.sameBut hs (h5.notCell z2)⟩
    · by_cases q : y = x
      · subst q; rw [lookup_cons_eq] at e; cases e
        exact .own h1 h2 h3 h4 M'
      · rw [lookup_cons_ne q] at e
        cases hv y d'' e with
        | loc z1 z2 z3 z4 => exact .loc z1 z2 z3 z4
        | own z1 z2 z3 z4 z5 =>
          rename_i a' v'
          have nn : a' ≠ a := fun z => by
            subst z
            have hp := (List.nodup_cons.mp hnd).2
            have m1 := mem_of_lookup h3
            have m2 := mem_of_lookup z3
            have : (y, a') = (x, a') := inj_of_nodup hp m2 m1 rfl
            exact q (congrArg Prod.fst this)
          exact .own z1 z2 z3 z4 (z5.grow (GLe.refl _) (hs.2 a' nn))
        | cell z1 z2 z3 z4 z5 => exact .cell z1 z2 z3 (z4.sameBut hs (h5.notCell z4)) z5

/-- a mutable name is bound to a new object -/
theorem St.storeNew {x : Str} {d : D} {v : Value} {a : Addr} (S : St prog w B cx O G h ρ) (hk : cx.env.kindOf x = some .local) (hm : cx.mu.contains x = true) (hpin : ∀ p, cx.pin = some p → p.1 ≠ x)
    (ha : a ∉ O) (hg : G a = Option.none) (M : Mut prog w G h v a d)
    (hm0 : ∀ m₀, h.Ns cx.env.locals m₀ → ∃ m', h'.Ns cx.env.locals m' ∧ ∀ y, m' y = if y = x then some v else m₀ y) (hs : Heap.SameBut cx.env.locals h h') :
    St prog w B cx (a :: O) G h' ((x, d) :: ρ) := by
  obtain ⟨m, μ, hns, hnd, hin, hv⟩ := S.fr
  obtain ⟨m', hns', hm'⟩ := hm0 m hns
  have hLO := hin _ (List.mem_cons_self ..)
  have hL := (S.own cx.env.locals hLO).1
  have na : a ≠ cx.env.locals := fun q => ha (q ▸ hLO)
  have exL : ∃ o, h'.get? cx.env.locals = some o := by obtain ⟨o, _, _, e, _⟩ := hns'; exact ⟨o, e⟩
  have ne : ∀ a o, G a = some o → a ≠ cx.env.locals := fun a o e q => by subst q; rw [hL] at e; cases e
  have M' := M.grow (G' := G) (h' := h') (GLe.refl _) (hs.2 a na)
  refine ⟨S.base, fun a o e => (hs.2 a (ne a o e)).trans (S.keep a o e), fun b hb => ?_, fun ho => ⟨(S.cells ho).1, fun p hp => ?_⟩, fun p hp => (by
    obtain ⟨m₁, e1, e2⟩ := S.pin p hp
    obtain ⟨m₂, f1, f2⟩ := hm0 m₁ e1
    exact ⟨m₂, f1, by rw [f2, if_neg (hpin p hp)]; exact e2⟩), m', (x, a) :: μ, hns', ?_, ?_, fun y d' e => ?_⟩
  · rcases List.mem_cons.mp hb with rfl | hb
    · exact ⟨hg, M'.exists⟩
    · refine ⟨(S.own b hb).1, ?_⟩
      by_cases q : b = cx.env.locals
      · subst q; exact exL
      · obtain ⟨_, o, h2⟩ := S.own b hb; exact ⟨o, (hs.2 b q).trans h2⟩
  · obtain ⟨h1, v', h2⟩ := (S.cells ho).2 p hp
    exact ⟨List.mem_cons_of_mem _ h1, v', h2.sameBut hs (cell_ne_ns h2 hns)⟩
  · have := List.nodup_cons.mp hnd
    refine List.nodup_cons.mpr ⟨fun q => ?_, List.nodup_cons.mpr ⟨fun q => ha (hin a (List.mem_cons_of_mem _ q)), this.2⟩⟩
    rcases List.mem_cons.mp q with q | q
    · exact na q.symm
    · exact this.1 q
  · intro b hb
    rcases List.mem_cons.mp hb with q | hb
    · exact List.mem_cons_of_mem _ (q ▸ hLO)
    · rcases List.mem_cons.mp hb with q | hb
      · exact q ▸ List.mem_cons_self ..
      · exact List.mem_cons_of_mem _ (hin b (List.mem_cons_of_mem _ hb))
  · by_cases q : y = x
    · subst q; rw [lookup_cons_eq] at e; cases e
      exact .own hk hm (by simp [List.lookup]) (by rw [hm', if_pos rfl]) M'
    · rw [lookup_cons_ne q] at e
      cases hv y d' e with
      | loc h1 h2 h3 h4 => exact .loc h1 h2 (by rw [hm', if_neg q]; exact h3) h4
      | own h1 h2 h3 h4 h5 =>
        rename_i a' v'
        have ha' : a' ∈ μ.map (·.2) := List.mem_map.mpr ⟨(y, a'), mem_of_lookup h3, rfl⟩
        have na' : a' ≠ cx.env.locals := fun z => by
          rw [z] at ha'
          exact (List.nodup_cons.mp hnd).1 ha'
        refine .own h1 h2 ?_ (by rw [hm', if_neg q]; exact h4) (h5.grow (GLe.refl _) (hs.2 a' na'))
        rw [List.lookup_cons]
        have : (y == x) = false := by simpa using q
        rw [this]; exact h3
      | cell h1 h2 h3 h4 h5 => exact .cell h1 h2 h3 (h4.sameBut hs (cell_ne_ns h4 hns)) h5

/-- a cell of the frame's own is stored -/
theorem St.storeCell {x : Str} {d : D} {v : Value} {c : Addr} (S : St prog w B cx O G h ρ) (ho : cx.own = true) (hk : cx.env.kindOf x = some .cell) (hm : cx.mu.contains x = false)
    (hc : cx.env.cells.lookup x = some c) (hr : Rep prog w G v d) (hi : h'.IsCell c (some v)) (hs : Heap.SameBut c h h') : St prog w B cx O G h' ((x, d) :: ρ) := by
  obtain ⟨m, μ, hns, hnd, hin, hv⟩ := S.fr
  obtain ⟨hcn, hcs⟩ := S.cells ho
  have hcm := mem_of_lookup hc
  obtain ⟨hcO, v₀, hc0⟩ := hcs _ hcm
  have hG := (S.own c hcO).1
  have ne : ∀ b o, G b = some o → b ≠ c := fun b o e q => by subst q; rw [hG] at e; cases e
  refine ⟨S.base, fun b o e => (hs.2 b (ne b o e)).trans (S.keep b o e), fun b hb => ⟨(S.own b hb).1, ?_⟩, fun _ => ⟨hcn, fun p hp => ?_⟩, fun p hp => (by obtain ⟨m₁, e1, e2⟩ := S.pin p hp; exact ⟨m₁, e1.sameBut hs (Ne.symm (cell_ne_ns hc0 hns)), e2⟩), m, μ, hns.sameBut hs (Ne.symm (cell_ne_ns hc0 hns)), hnd, hin, fun y d' e => ?_⟩
  · by_cases q : b = c
    · subst q; obtain ⟨o, h1, _⟩ := hi; exact ⟨o, h1⟩
    · obtain ⟨_, o, h2⟩ := S.own b hb; exact ⟨o, (hs.2 b q).trans h2⟩
  · obtain ⟨h1, v', h2⟩ := hcs p hp
    refine ⟨h1, ?_⟩
    by_cases q : p.2 = c
    · rw [q]; exact ⟨_, hi⟩
    · exact ⟨v', h2.sameBut hs q⟩
  · by_cases q : y = x
    · subst q; rw [lookup_cons_eq] at e; cases e
      exact .cell (.inl hk) hm hc hi hr
    · rw [lookup_cons_ne q] at e
      cases hv y d' e with
      | loc h1 h2 h3 h4 => exact .loc h1 h2 h3 h4
      | own h1 h2 h3 h4 h5 =>
        rename_i a' v'
        exact .own h1 h2 h3 h4 (h5.grow (GLe.refl _) (hs.2 a' (Ne.symm (h5.notCell hc0))))
      | cell h1 h2 h3 h4 h5 =>
        rename_i c' v'
        have : c' ≠ c := fun z => by
          subst z
          exact q (congrArg Prod.fst (inj_of_nodup hcn (mem_of_lookup h3) hcm rfl))
        exact .cell h1 h2 h3 (h4.sameBut hs this) h5

end
end

section

structure Ok {K : Frag} (B : Base K) (G : GMap) (s : Shared) : Prop where
  base : ∀ a o, B.h.get? a = some o → G a = some o
  keep : ∀ a o, G a = some o → s.heap.get? a = some o
  tk : 0 < s.toks

section
variable (prog : Program) (w : World)
inductive Vis (G : GMap) (h : Heap) : Value → D → Prop
  | rep {v : Value} {d : D} : Rep prog w G v d → Vis G h v d
  | lst {a : Addr} {vs : List Value} {n : Nat} {ds : List D} : h.get? a = some (lstO vs n) → RepL prog w G vs ds → Vis G h (.ref a) (.lst ds)
  | dic {a : Addr} {o : Obj} {kvs : List (Str × Value)} {ds : List (Str × D)} : (a == sysModules) = false → h.get? a = some o → o.IsDictOf (strKind prog w) kvs → RepK prog w G kvs ds → Vis G h (.ref a) (.dic ds)
  | obj {a xa c : Addr} {es : List DictEntry} {n : Nat} {fs : List (Str × D)} : h.get? xa = some (instObj c a) → h.get? a = some (dictOf es n) → RepF prog w G es fs → Vis G h (.ref xa) (.obj c fs)

/-- what a step that gives a value promises -/
noncomputable def Ret {α : Type} (P : GMap → Heap → α → D → Prop) (G : GMap) (s : Shared) (Ψ : D → Prop) (Q : α → Shared → Prop) : Prop :=
  ∀ v d h' tk' G', Grow G s.heap G' h' → P G' h' v d → s.toks ≤ tk' → Ψ d → Q v { s with heap := h', toks := tk' }

variable {K : Frag} (B : Base K) (cx : Cx)

noncomputable def WE (e : Expr) (Ψ : D → Prop) (ρ : List (Str × D)) : Prop :=
  ∀ O G (s : Shared) (Q : Value → Shared → Prop) (E : Value → Shared → Prop), St prog w B cx O G s.heap ρ → 0 < s.toks → Ret (fun G' _ => Rep prog w G') G s Ψ Q → wpAny (model prog w) cx.A (eval e cx.env) Q E s

noncomputable def WV (e : Expr) (Ψ : D → Prop) (ρ : List (Str × D)) : Prop :=
  ∀ O G (s : Shared) (Q : Value → Shared → Prop) (E : Value → Shared → Prop), St prog w B cx O G s.heap ρ → 0 < s.toks → Ret (fun G' h' => Vis prog w G' h') G s Ψ Q → wpAny (model prog w) cx.A (eval e cx.env) Q E s

noncomputable def WL (es : List Expr) (Ψ : List D → Prop) (ρ : List (Str × D)) : Prop :=
  ∀ pos O G (s : Shared) (Q : List Value → Shared → Prop) (E : Value → Shared → Prop), St prog w B cx O G s.heap ρ → 0 < s.toks →
    (∀ vs ds h' tk' G', Grow G s.heap G' h' → RepL prog w G' vs ds → s.toks ≤ tk' → Ψ ds → Q vs { s with heap := h', toks := tk' }) →
    wpAny (model prog w) cx.A (spliced (backTo pos (starEach es cx.env))) Q E s

noncomputable def WB (e : Expr) (Ψ : Bool → Prop) (ρ : List (Str × D)) : Prop :=
  ∀ O G (s : Shared) (Q : Bool → Shared → Prop) (E : Value → Shared → Prop), St prog w B cx O G s.heap ρ → 0 < s.toks →
    (∀ b h' tk' G', Grow G s.heap G' h' → s.toks ≤ tk' → Ψ b → Q b { s with heap := h', toks := tk' }) →
    wpAny (model prog w) cx.A (isTrue e cx.env (eval e cx.env)) Q E s

noncomputable def J2 (f : Value → Value → Sem Value) (a b : D) (Ψ : D → Prop) : Prop :=
  ∀ G (s : Shared) (Q : Value → Shared → Prop) (E : Value → Shared → Prop) (u v : Value), Ok B G s → Vis prog w G s.heap u a → Vis prog w G s.heap v b → Ret (fun G' _ => Rep prog w G') G s Ψ Q → wpAny (model prog w) cx.A (f u v) Q E s

noncomputable def J1 (f : Value → Sem Value) (a : D) (Ψ : D → Prop) : Prop :=
  ∀ G (s : Shared) (Q : Value → Shared → Prop) (E : Value → Shared → Prop) (u : Value), Ok B G s → Vis prog w G s.heap u a → Ret (fun G' _ => Rep prog w G') G s Ψ Q → wpAny (model prog w) cx.A (f u) Q E s

noncomputable def JT (a : D) (Ψ : Bool → Prop) : Prop :=
  ∀ G (s : Shared) (Q : Bool → Shared → Prop) (E : Value → Shared → Prop) (u : Value), Ok B G s → Vis prog w G s.heap u a →
    (∀ b h' tk' G', Grow G s.heap G' h' → s.toks ≤ tk' → Ψ b → Q b { s with heap := h', toks := tk' }) → wpAny (model prog w) cx.A (truthy u) Q E s

/-- a call, positional -/
noncomputable def JC (f : Value) (ds : List D) (Ψ : D → Prop) : Prop :=
  ∀ G (s : Shared) (Q : Value → Shared → Prop) (E : Value → Shared → Prop) (vs : List Value), Ok B G s → RepL prog w G vs ds → Ret (fun G' _ => Rep prog w G') G s Ψ Q → wpAny (model prog w) cx.A (call f vs []) Q E s
end

section
variable {prog : Program} {w : World} {K : Frag} {B : Base K} {cx : Cx} {O : List Addr} {G G' : GMap} {h h' : Heap} {ρ : List (Str × D)} {Ψ : D → Prop}

theorem St.ok {s : Shared} (S : St prog w B cx O G s.heap ρ) (tk : 0 < s.toks) : Ok B G s := ⟨S.base, S.keep, tk⟩
theorem Ok.grow {s : Shared} {h' : Heap} {tk' : Nat} (o : Ok B G s) (k : Grow G s.heap G' h') (t : s.toks ≤ tk') : Ok B G' { s with heap := h', toks := tk' } :=
  ⟨fun a x e => k.gg a x (o.base a x e), k.gh, Nat.lt_of_lt_of_le o.tk t⟩
theorem Vis.grow {v : Value} {d : D} (k : Grow G h G' h') : Vis prog w G h v d → Vis prog w G' h' v d
  | .rep r => .rep (r.mono k.gg)
  | .lst e l => .lst (k.hh _ _ e) (l.mono k.gg)
  | .dic z e i l => .dic z (k.hh _ _ e) i (l.mono k.gg)
  | .obj e e' l => .obj (k.hh _ _ e) (k.hh _ _ e') (l.mono k.gg)
/-- what a value is, by what it shows -/
noncomputable def Inv (prog : Program) (w : World) (G : GMap) (L : Addr → Obj → Prop) (v : Value) : D → Prop
  | .none => v = .none
  | .bool b => v = .bool b
  | .int i => ∃ t, v = .int i t
  | .str x => ∃ t, v = .str x t
  | .tup ds => ∃ a vs n, v = .ref a ∧ G a = some (tupO vs n) ∧ RepL prog w G vs ds
  | .lst ds => ∃ a vs n, v = .ref a ∧ L a (lstO vs n) ∧ RepL prog w G vs ds
  | .dic ds => ∃ a o kvs, v = .ref a ∧ (a == sysModules) = false ∧ L a o ∧ o.IsDictOf (strKind prog w) kvs ∧ RepK prog w G kvs ds
  | .obj c fs => ∃ a dx es n, v = .ref a ∧ L a (instObj c dx) ∧ L dx (dictOf es n) ∧ RepF prog w G es fs
  | .glob a => v = .ref a
theorem Rep.inv {v : Value} {d : D} {L : Addr → Obj → Prop} (k : ∀ a o, G a = some o → L a o) (r : Rep prog w G v d) : Inv prog w G L v d := by
  cases r with
  | none => exact rfl
  | bool b => exact rfl
  | int i t => exact ⟨t, rfl⟩
  | str x t => exact ⟨t, rfl⟩
  | glob a => exact rfl
  | tup e l => exact ⟨_, _, _, rfl, e, l⟩
  | lst e l => exact ⟨_, _, _, rfl, k _ _ e, l⟩
  | dic z e i l => exact ⟨_, _, _, rfl, z, k _ _ e, i, l⟩
  | obj e e' l => exact ⟨_, _, _, _, rfl, k _ _ e, k _ _ e', l⟩
theorem Vis.inv {v : Value} {d : D} {L : Addr → Obj → Prop} (k : ∀ a o, G a = some o → L a o) (k' : ∀ a o, h.get? a = some o → L a o) (r : Vis prog w G h v d) : Inv prog w G L v d := by
  cases r with
  | rep r => exact r.inv k
  | lst e l => exact ⟨_, _, _, rfl, k' _ _ e, l⟩
  | dic z e i l => exact ⟨_, _, _, rfl, z, k' _ _ e, i, l⟩
  | obj e e' l => exact ⟨_, _, _, _, rfl, k' _ _ e, k' _ _ e', l⟩
theorem Vis.any {v : Value} {d : D} (r : Vis prog w G h v d) : Inv prog w G (fun _ _ => True) v d := r.inv (fun _ _ _ => trivial) fun _ _ _ => trivial
theorem Rep.any {v : Value} {d : D} (r : Rep prog w G v d) : Inv prog w G (fun _ _ => True) v d := r.inv fun _ _ _ => trivial
theorem Vis.int {v : Value} {i : Int} (r : Vis prog w G h v (.int i)) : ∃ t, v = .int i t := r.any
theorem Vis.str {v : Value} {x : Str} (r : Vis prog w G h v (.str x)) : ∃ t, v = .str x t := r.any
theorem Vis.bool {v : Value} {b : Bool} (r : Vis prog w G h v (.bool b)) : v = .bool b := r.any
theorem Vis.none {v : Value} (r : Vis prog w G h v .none) : v = .none := r.any
theorem Vis.lstAt {v : Value} {ds : List D} (k : ∀ a o, G a = some o → h.get? a = some o) (r : Vis prog w G h v (.lst ds)) : ∃ a vs n, v = .ref a ∧ h.get? a = some (lstO vs n) ∧ RepL prog w G vs ds := r.inv (L := fun a o => h.get? a = some o) k fun _ _ e => e
theorem Vis.tupAt {v : Value} {ds : List D} (r : Vis prog w G h v (.tup ds)) : ∃ a vs n, v = .ref a ∧ G a = some (tupO vs n) ∧ RepL prog w G vs ds := r.any
theorem Vis.dicAt {v : Value} {ds : List (Str × D)} (k : ∀ a o, G a = some o → h.get? a = some o) (r : Vis prog w G h v (.dic ds)) :
    ∃ a o kvs, v = .ref a ∧ (a == sysModules) = false ∧ h.get? a = some o ∧ o.IsDictOf (strKind prog w) kvs ∧ RepK prog w G kvs ds := r.inv (L := fun a o => h.get? a = some o) k fun _ _ e => e
theorem Vis.objAt {v : Value} {c : Addr} {fs : List (Str × D)} (k : ∀ a o, G a = some o → h.get? a = some o) (r : Vis prog w G h v (.obj c fs)) : ∃ a dx es n, v = .ref a ∧ h.get? a = some (instObj c dx) ∧ h.get? dx = some (dictOf es n) ∧ RepF prog w G es fs := r.inv (L := fun a o => h.get? a = some o) k fun _ _ e => e
theorem Vis.glob {v : Value} {a : Addr} (r : Vis prog w G h v (.glob a)) : v = .ref a := r.any
theorem Rep.objAt {v : Value} {c : Addr} {fs : List (Str × D)} (r : Rep prog w G v (.obj c fs)) : ∃ a dx es n, v = .ref a ∧ G a = some (instObj c dx) ∧ G dx = some (dictOf es n) ∧ RepF prog w G es fs := r.inv (L := fun a o => G a = some o) fun _ _ e => e
theorem ar1 {vs : List Value} (h : vs.length = 1) : ∃ a, vs = [a] := List.length_eq_one_iff.mp h
theorem arS {vs : List Value} {n : Nat} (h : vs.length = n + 1) : ∃ a us, vs = a :: us ∧ us.length = n := by
  cases vs with
  | nil => cases h
  | cons a us => exact ⟨a, us, rfl, Nat.succ.inj h⟩
theorem ar2 {vs : List Value} (h : vs.length = 2) : ∃ a b, vs = [a, b] := by
  obtain ⟨a, us, rfl, k⟩ := arS h
  obtain ⟨b, rfl⟩ := ar1 k
  exact ⟨a, b, rfl⟩
theorem ar3 {vs : List Value} (h : vs.length = 3) : ∃ a b c, vs = [a, b, c] := by
  obtain ⟨a, us, rfl, k⟩ := arS h
  obtain ⟨b, c, rfl⟩ := ar2 k
  exact ⟨a, b, c, rfl⟩
theorem ar4 {vs : List Value} (h : vs.length = 4) : ∃ a b c d, vs = [a, b, c, d] := by
  obtain ⟨a, us, rfl, k⟩ := arS h
  obtain ⟨b, c, d, rfl⟩ := ar3 k
  exact ⟨a, b, c, d, rfl⟩
theorem ar5 {vs : List Value} (h : vs.length = 5) : ∃ a b c d e, vs = [a, b, c, d, e] := by
  obtain ⟨a, us, rfl, k⟩ := arS h
  obtain ⟨b, c, d, e, rfl⟩ := ar4 k
  exact ⟨a, b, c, d, e, rfl⟩

/-- the step that leaves heap and frozen part alone -/
theorem Ret.here {P : GMap → Heap → Value → D → Prop} {s : Shared} {Q : Value → Shared → Prop} {v : Value} {d : D} (R : Ret P G s Ψ Q) (k : ∀ a o, G a = some o → s.heap.get? a = some o) (p : P G s.heap v d) (z : Ψ d) :
    Q v s := R v d s.heap s.toks G (Grow.refl k) p (Nat.le_refl _) z
theorem Ret.tok {P : GMap → Heap → Value → D → Prop} {s : Shared} {Q : Value → Shared → Prop} {v : Value} {d : D} {n : Nat} (R : Ret P G s Ψ Q) (k : ∀ a o, G a = some o → s.heap.get? a = some o) (p : P G s.heap v d) (z : Ψ d)
    (t : s.toks ≤ n) : Q v { s with toks := n } := R v d s.heap n G (Grow.refl k) p t z
/-- what comes behind a step -/
theorem Ret.after {P : GMap → Heap → Value → D → Prop} {s : Shared} {Q : Value → Shared → Prop} {Ψ' : D → Prop} (R : Ret P G s Ψ Q) {h' : Heap} {tk' : Nat} {G' : GMap} (k : Grow G s.heap G' h') (t : s.toks ≤ tk') (z : ∀ d, Ψ' d → Ψ d) :
    Ret P G' { s with heap := h', toks := tk' } Ψ' Q := fun v d h'' tk'' G'' k' p t' z' => R v d h'' tk'' G'' (k.trans k') p (Nat.le_trans t t') (z d z')

theorem WV.of {e : Expr} (x : WE prog w B cx e Ψ ρ) : WV prog w B cx e Ψ ρ := fun O G s Q E S tk R => x O G s Q E S tk fun v d h' tk' G' k p t z => R v d h' tk' G' k (.rep p) t z

theorem WE.name {x : Str} {p : Pos} {d : D} (hl : ρ.lookup x = some d) (z : Ψ d) (hm : cx.mu.contains x = false := by rfl) (hd : (x == ("__debug__" : Str)) = false := by rfl) (hn : (x == ("__classdict__" : Str)) = false := by rfl) :
    WE prog w B cx (.Name x p) Ψ ρ := fun O G s Q E S tk R => by
  refine wpAny_Name ?_ hd
  obtain ⟨m, μ, hns, _, _, hv⟩ := S.fr
  cases hv x d hl with
  | loc h1 _ h3 h4 => exact wpAny_loadName_local cx.kind h1 hns h3 (R.here S.keep h4 z)
  | own _ h2 _ _ _ => rw [hm] at h2; cases h2
  | cell h1 _ h3 h4 h5 =>
    rcases h1 with h1 | h1
    · exact wpAny_loadName_cell cx.kind h1 h3 h4 (R.here S.keep h5 z)
    · exact wpAny_loadName_free cx.kind h1 h3 h4 (R.here S.keep h5 z) hn

theorem Mut.vis {v : Value} {a : Addr} {d : D} (k : ∀ a o, G a = some o → h.get? a = some o) : Mut prog w G h v a d → Vis prog w G h v d
  | .lst e l => .lst e l
  | .dic z e i l => .dic z e i l
  | .obj e e' l => .obj (k _ _ e) e' l

theorem WV.name {x : Str} {p : Pos} {d : D} (hl : ρ.lookup x = some d) (z : Ψ d) (hm : cx.mu.contains x = true := by rfl) (hd : (x == ("__debug__" : Str)) = false := by rfl) :
    WV prog w B cx (.Name x p) Ψ ρ := fun O G s Q E S tk R => by
  refine wpAny_Name ?_ hd
  obtain ⟨m, v, a, hk, hns, hv, M, _⟩ := S.turn hl hm
  exact wpAny_loadName_local cx.kind hk hns hv (R.here S.keep (M.vis S.keep) z)

theorem WE.int {i : Int} {k : Nat} {p : Pos} (z : Ψ (.int i)) : WE prog w B cx (.Constant (.int i) k p) Ψ ρ := fun O G s Q E S tk R =>
  wpAny_Constant_int (R.tok S.keep (.int _ _) z (Nat.le_succ _))
theorem WE.str {x : Str} {k : Nat} {p : Pos} (z : Ψ (.str x)) : WE prog w B cx (.Constant (.str x) k p) Ψ ρ := fun O G s Q E S tk R =>
  Calls.Constant_str (R.tok S.keep (.str _ _) z (Nat.le_succ _))
theorem WE.bool {b : Bool} {k : Nat} {p : Pos} (z : Ψ (.bool b)) : WE prog w B cx (.Constant (.bool b) k p) Ψ ρ := fun O G s Q E S tk R =>
  show wpAny _ _ (pure (Value.bool b)) _ _ _ from wpAny_pure (R.here S.keep (.bool _) z)
theorem WE.none {k : Nat} {p : Pos} (z : Ψ .none) : WE prog w B cx (.Constant .none k p) Ψ ρ := fun O G s Q E S tk R =>
  show wpAny _ _ (pure Value.none) _ _ _ from wpAny_pure (R.here S.keep .none z)

theorem WE.binop {l r : Expr} {op : Operator} {p : Pos} (x : WV prog w B cx l (fun a => WV prog w B cx r (fun b => J2 prog w B cx (binaryOp op) a b Ψ) ρ) ρ) : WE prog w B cx (.BinOp l op r p) Ψ ρ := fun O G s Q E S tk R => by
  refine wpAny_BinOp (x O G s _ E S tk fun v a h₁ t₁ G₁ k₁ p₁ u₁ z₁ => ?_)
  refine z₁ O G₁ _ _ E (S.grow k₁) (Nat.lt_of_lt_of_le tk u₁) fun u b h₂ t₂ G₂ k₂ p₂ u₂ z₂ => ?_
  exact z₂ G₂ _ _ E v u (((S.ok tk).grow k₁ u₁).grow k₂ u₂) (p₁.grow k₂) p₂ ((R.after k₁ u₁ fun _ z => z).after k₂ u₂ fun _ z => z)

theorem WE.compare {l r : Expr} {op : CmpOp} {p : Pos} (x : WV prog w B cx l (fun a => WV prog w B cx r (fun b => J2 prog w B cx (compareOp op) a b Ψ) ρ) ρ) (hm : behindInMarks op r = false := by with_unfolding_all rfl) :
    WE prog w B cx (.Compare l [op] [r] p) Ψ ρ := fun O G s Q E S tk R => by
  refine wpAny_Compare1 (x O G s _ E S tk fun v a h₁ t₁ G₁ k₁ p₁ u₁ z₁ => ?_) hm
  refine z₁ O G₁ _ _ E (S.grow k₁) (Nat.lt_of_lt_of_le tk u₁) fun u b h₂ t₂ G₂ k₂ p₂ u₂ z₂ => ?_
  exact z₂ G₂ _ _ E v u (((S.ok tk).grow k₁ u₁).grow k₂ u₂) (p₁.grow k₂) p₂ ((R.after k₁ u₁ fun _ z => z).after k₂ u₂ fun _ z => z)

theorem WE.unary {e : Expr} {op : UnaryOp} {p : Pos} (x : WV prog w B cx e (fun a => J1 prog w B cx (unaryOp op) a Ψ) ρ) : WE prog w B cx (.UnaryOp op e p) Ψ ρ := fun O G s Q E S tk R => by
  show wpAny _ _ (do let v ← eval e cx.env; standAt p; holding [v] (unaryOp op v)) Q E s
  refine wpAny_bind (x O G s _ E S tk fun v a h₁ t₁ G₁ k₁ p₁ u₁ z₁ => wpAny_bind (wpAny_standAt (wpAny_holding ?_)))
  exact z₁ G₁ _ _ E v ((S.ok tk).grow k₁ u₁) p₁ (R.after k₁ u₁ fun _ z => z)

theorem WE.ifExp {t b c : Expr} {p : Pos} (x : WB prog w B cx t (fun q => if q = true then WE prog w B cx b Ψ ρ else WE prog w B cx c Ψ ρ) ρ) : WE prog w B cx (.IfExp t b c p) Ψ ρ := fun O G s Q E S tk R => by
  show wpAny _ _ (do if ← isTrue t cx.env (eval t cx.env) then eval b cx.env else eval c cx.env) Q E s
  refine wpAny_bind (x O G s _ E S tk fun q h₁ t₁ G₁ k₁ u₁ z₁ => ?_)
  cases q with
  | true => exact z₁ O G₁ _ _ E (S.grow k₁) (Nat.lt_of_lt_of_le tk u₁) (R.after k₁ u₁ fun _ z => z)
  | false => exact z₁ O G₁ _ _ E (S.grow k₁) (Nat.lt_of_lt_of_le tk u₁) (R.after k₁ u₁ fun _ z => z)

theorem WB.compare {l r : Expr} {op : CmpOp} {p : Pos} {Φ : Bool → Prop} (x : WV prog w B cx l (fun a => WV prog w B cx r (fun b => J2 prog w B cx (compareOp op) a b (fun c => ∃ q, c = .bool q ∧ Φ q)) ρ) ρ) (hm : behindInMarks op r = false := by with_unfolding_all rfl) :
    WB prog w B cx (.Compare l [op] [r] p) Φ ρ := fun O G s Q E S tk R => by
  refine wpAny_isTrue_Compare1 (x O G s _ E S tk fun v a h₁ t₁ G₁ k₁ p₁ u₁ z₁ => ?_) hm
  refine z₁ O G₁ _ _ E (S.grow k₁) (Nat.lt_of_lt_of_le tk u₁) fun u b h₂ t₂ G₂ k₂ p₂ u₂ z₂ => ?_
  refine z₂ G₂ _ _ E v u (((S.ok tk).grow k₁ u₁).grow k₂ u₂) (p₁.grow k₂) p₂ fun c d h₃ t₃ G₃ k₃ p₃ u₃ z₃ => ?_
  obtain ⟨q, rfl, z⟩ := z₃
  cases p₃
  exact wpAny_truthy_bool (R q h₃ t₃ G₃ ((k₁.trans k₂).trans k₃) (Nat.le_trans (Nat.le_trans u₁ u₂) u₃) z)

theorem allTrue_cons {M : Model} {A : Around} {env : PySem.Env} {op : BoolOp} {e : Expr} {es : List Expr} {Q : Bool → Shared → Prop} {E : Value → Shared → Prop} {s : Shared}
    (x : wpAny M A (isTrue e env (eval e env)) (fun q s' => match op, q with | .And, false => Q false s' | .Or, true => Q true s' | _, _ => wpAny M A (allTrue op es env) Q E s') E s) : wpAny M A (allTrue op (e :: es) env) Q E s := by
  show wpAny M A (do match op, ← isTrue e env (eval e env) with | .And, false => pure false | .Or, true => pure true | _, _ => allTrue op es env) Q E s
  refine wpAny_bind (wpAny_mono x (fun q s' z => ?_) fun _ _ z => z)
  cases op <;> cases q <;> first | exact z | exact wpAny_pure z

theorem WB.and {e f : Expr} {p : Pos} {Φ : Bool → Prop} (x : WB prog w B cx e (fun q => if q = true then WB prog w B cx f Φ ρ else Φ false) ρ) : WB prog w B cx (.BoolOp .And [e, f] p) Φ ρ := fun O G s Q E S tk R => by
  show wpAny _ _ (allTrue .And [e, f] cx.env) Q E s
  refine allTrue_cons (x O G s _ E S tk fun q h₁ t₁ G₁ k₁ u₁ z₁ => ?_)
  cases q with
  | false => exact R false h₁ t₁ G₁ k₁ u₁ z₁
  | true =>
    refine allTrue_cons (z₁ O G₁ _ _ E (S.grow k₁) (Nat.lt_of_lt_of_le tk u₁) fun q' h₂ t₂ G₂ k₂ u₂ z₂ => ?_)
    cases q' with
    | false => exact R false h₂ t₂ G₂ (k₁.trans k₂) (Nat.le_trans u₁ u₂) z₂
    | true => exact wpAny_pure (R true h₂ t₂ G₂ (k₁.trans k₂) (Nat.le_trans u₁ u₂) z₂)

theorem WB.and3 {e f g : Expr} {p : Pos} {Φ : Bool → Prop} (x : WB prog w B cx e (fun q => if q = true then WB prog w B cx f (fun q => if q = true then WB prog w B cx g Φ ρ else Φ false) ρ else Φ false) ρ) :
    WB prog w B cx (.BoolOp .And [e, f, g] p) Φ ρ := fun O G s Q E S tk R => by
  show wpAny _ _ (allTrue .And [e, f, g] cx.env) Q E s
  refine allTrue_cons (x O G s _ E S tk fun q h₁ t₁ G₁ k₁ u₁ z₁ => ?_)
  cases q with
  | false => exact R false h₁ t₁ G₁ k₁ u₁ z₁
  | true =>
    refine allTrue_cons (z₁ O G₁ _ _ E (S.grow k₁) (Nat.lt_of_lt_of_le tk u₁) fun q' h₂ t₂ G₂ k₂ u₂ z₂ => ?_)
    cases q' with
    | false => exact R false h₂ t₂ G₂ (k₁.trans k₂) (Nat.le_trans u₁ u₂) z₂
    | true =>
      refine allTrue_cons (z₂ O G₂ _ _ E ((S.grow k₁).grow k₂) (Nat.lt_of_lt_of_le tk (Nat.le_trans u₁ u₂)) fun q' h₃ t₃ G₃ k₃ u₃ z₃ => ?_)
      cases q' with
      | false => exact R false h₃ t₃ G₃ ((k₁.trans k₂).trans k₃) (Nat.le_trans (Nat.le_trans u₁ u₂) u₃) z₃
      | true => exact wpAny_pure (R true h₃ t₃ G₃ ((k₁.trans k₂).trans k₃) (Nat.le_trans (Nat.le_trans u₁ u₂) u₃) z₃)

theorem WB.or {e f : Expr} {p : Pos} {Φ : Bool → Prop} (x : WB prog w B cx e (fun q => if q = true then Φ true else WB prog w B cx f Φ ρ) ρ) : WB prog w B cx (.BoolOp .Or [e, f] p) Φ ρ := fun O G s Q E S tk R => by
  show wpAny _ _ (allTrue .Or [e, f] cx.env) Q E s
  refine allTrue_cons (x O G s _ E S tk fun q h₁ t₁ G₁ k₁ u₁ z₁ => ?_)
  cases q with
  | true => exact R true h₁ t₁ G₁ k₁ u₁ z₁
  | false =>
    refine allTrue_cons (z₁ O G₁ _ _ E (S.grow k₁) (Nat.lt_of_lt_of_le tk u₁) fun q' h₂ t₂ G₂ k₂ u₂ z₂ => ?_)
    cases q' with
    | false => exact wpAny_pure (R false h₂ t₂ G₂ (k₁.trans k₂) (Nat.le_trans u₁ u₂) z₂)
    | true => exact R true h₂ t₂ G₂ (k₁.trans k₂) (Nat.le_trans u₁ u₂) z₂

noncomputable def plainTest : Expr → Bool
  | .UnaryOp .Not _ _ | .BoolOp .. | .IfExp .. | .Compare .. => false
  | _ => true
theorem isTrue_other {e : Expr} {env : PySem.Env} {t : Sem Value} (hp : plainTest e = true) : isTrue e env t = (do let v ← t; standAt e.pos; holding [v] (truthy v)) := by
  cases e with
  | UnaryOp op _ _ => cases op <;> first | rfl | cases hp
  | BoolOp | IfExp | Compare => cases hp
  | _ => rfl
theorem WB.other {e : Expr} {Φ : Bool → Prop} (x : WV prog w B cx e (fun d => JT prog w B cx d Φ) ρ) (hp : plainTest e = true := by rfl) : WB prog w B cx e Φ ρ := fun O G s Q E S tk R => by
  rw [isTrue_other hp]
  refine wpAny_bind (x O G s _ E S tk fun v a h₁ t₁ G₁ k₁ p₁ u₁ z₁ => wpAny_bind (wpAny_standAt (wpAny_holding ?_)))
  exact z₁ G₁ _ _ E v ((S.ok tk).grow k₁ u₁) p₁ fun q h₂ t₂ G₂ k₂ u₂ z₂ => R q h₂ t₂ G₂ (k₁.trans k₂) (Nat.le_trans u₁ u₂) z₂

theorem JT.bool {b : Bool} {Φ : Bool → Prop} (z : Φ b) : JT prog w B cx (.bool b) Φ := fun G s Q E u o v R => by
  cases v.bool; exact wpAny_truthy_bool (R b s.heap s.toks G (Grow.refl o.keep) (Nat.le_refl _) z)
theorem JT.int {i : Int} {Φ : Bool → Prop} (z : Φ (i != 0)) : JT prog w B cx (.int i) Φ := fun G s Q E u o v R => by
  obtain ⟨t, rfl⟩ := v.int; exact PyProof.Rows.truthy_int (R _ s.heap s.toks G (Grow.refl o.keep) (Nat.le_refl _) z)

theorem WL.nil {Φ : List D → Prop} (z : Φ []) : WL prog w B cx [] Φ ρ := fun pos O G s Q E S tk R =>
  spliced_nil (R [] [] s.heap s.toks G (Grow.refl S.keep) .nil (Nat.le_refl _) z)
theorem WL.cons {e : Expr} {es : List Expr} {Φ : List D → Prop} (x : WE prog w B cx e (fun d => WL prog w B cx es (fun ds => Φ (d :: ds)) ρ) ρ) (hs : ∀ env, starEach (e :: es) env = (false, eval e env) :: starEach es env := by intro _; rfl) :
    WL prog w B cx (e :: es) Φ ρ := fun pos O G s Q E S tk R => by
  rw [hs]
  show wpAny _ _ (spliced ((false, eval e cx.env) :: backTo pos (starEach es cx.env))) Q E s
  refine spliced_cons (x O G s _ E S tk fun v a h₁ t₁ G₁ k₁ p₁ u₁ z₁ => ?_)
  refine z₁ pos O G₁ _ _ E (S.grow k₁) (Nat.lt_of_lt_of_le tk u₁) fun vs ds h₂ t₂ G₂ k₂ p₂ u₂ z₂ => ?_
  exact R (v :: vs) (a :: ds) h₂ t₂ G₂ (k₁.trans k₂) (.cons (p₁.mono k₂.gg) p₂) (Nat.le_trans u₁ u₂) z₂

theorem WE.tuple {es : List Expr} {k : Nat} {p : Pos} (x : WL prog w B cx es (fun ds => ds.length ≤ 1000 ∧ Ψ (.tup ds)) ρ) : WE prog w B cx (.Tuple es k p) Ψ ρ := fun O G s Q E S tk R => by
  refine Tuple_ (x p O G s _ E S tk fun vs ds h₁ t₁ G₁ k₁ p₁ u₁ z₁ => ?_)
  have hz : vs.length ≤ sizeLine := by rw [p₁.length, sizeLine_eq]; omega
  refine wpAny_newObj_type (show Q (.ref h₁.objs.size) { s with heap := h₁.push (tupO vs 0), toks := t₁ } from ?_) (by show vs.toArray.size ≤ sizeLine; rw [List.size_toArray]; exact hz)
  have g := Grow.push (G := G₁) (h := h₁) (o := tupO vs 0) k₁.gh
  exact R _ _ _ _ _ (k₁.trans g) (.tup (GMap.put_self ..) (p₁.mono g.gg)) u₁ z₁.2

theorem WE.list {es : List Expr} {p : Pos} (x : WL prog w B cx es (fun ds => ds.length ≤ 1000 ∧ Ψ (.lst ds)) ρ) : WE prog w B cx (.List es p) Ψ ρ := fun O G s Q E S tk R => by
  refine List_ (x p O G s _ E S tk fun vs ds h₁ t₁ G₁ k₁ p₁ u₁ z₁ => ?_)
  have hz : vs.length ≤ sizeLine := by rw [p₁.length, sizeLine_eq]; omega
  refine wpAny_newObj_type (show Q (.ref h₁.objs.size) { s with heap := h₁.push (lstO vs 0), toks := t₁ } from ?_) (by show vs.toArray.size ≤ sizeLine; rw [List.size_toArray]; exact hz)
  have g := Grow.push (G := G₁) (h := h₁) (o := lstO vs 0) k₁.gh
  exact R _ _ _ _ _ (k₁.trans g) (.lst (GMap.put_self ..) (p₁.mono g.gg)) u₁ z₁.2
end
end

open PySem.Builtin.Str (occurrences)
section
section
variable {prog : Program} {w : World} {K : Frag} {B : Base K} {cx : Cx} {O : List Addr} {G G' : GMap} {h h' : Heap} {ρ : List (Str × D)} {Ψ : D → Prop}

theorem Ok.push {s : Shared} {o : Obj} (k : Ok B G s) (hf : o.isFreed = false := by rfl) : Grow G s.heap (G.put s.heap.objs.size o) (s.heap.push o) := Grow.push k.keep hf

/-- how an operation on two values is shown -/
theorem J2.int {f : Value → Value → Sem Value} {a b : Int}
    (x : ∀ (s : Shared) (Q : Value → Shared → Prop) (E : Value → Shared → Prop) (t u : Tok), (∀ r tk', s.toks ≤ tk' → (∃ d, Ψ d ∧ ∀ G, Rep prog w G r d) → Q r { s with toks := tk' }) → wpAny (model prog w) cx.A (f (.int a t) (.int b u)) Q E s) :
    J2 prog w B cx f (.int a) (.int b) Ψ := fun G s Q E u v o p q R => by
  obtain ⟨t, rfl⟩ := p.int
  obtain ⟨t', rfl⟩ := q.int
  refine x s Q E t t' fun r tk' ht y => ?_
  obtain ⟨d, z, p'⟩ := y
  exact R r d s.heap tk' G (Grow.refl o.keep) (p' _) ht z

theorem J2.add {a b : Int} (z : Ψ (.int (a + b))) : J2 prog w B cx (binaryOp .Add) (.int a) (.int b) Ψ :=
  J2.int fun s Q E t u R => PyProof.Rows.add_int (R _ _ (Nat.le_succ _) ⟨_, z, fun _ => .int _ _⟩)
theorem J2.sub {a b : Int} (z : Ψ (.int (a - b))) : J2 prog w B cx (binaryOp .Sub) (.int a) (.int b) Ψ :=
  J2.int fun s Q E t u R => PyProof.Rows.sub_int (R _ _ (Nat.le_succ _) ⟨_, z, fun _ => .int _ _⟩)
theorem J2.mul {a b : Int} (hm : IntMulOk a b) (z : Ψ (.int (a * b))) : J2 prog w B cx (binaryOp .Mult) (.int a) (.int b) Ψ :=
  J2.int fun s Q E t u R => PyProof.Rows.mul_int (R _ _ (Nat.le_succ _) ⟨_, z, fun _ => .int _ _⟩) hm
theorem J2.floordiv {a b : Int} (hb : b ≠ 0) (hs : b.natAbs < 1073741824) (z : Ψ (.int (a.fdiv b))) : J2 prog w B cx (binaryOp .FloorDiv) (.int a) (.int b) Ψ :=
  J2.int fun s Q E t u R => PyProof.Rows.floordiv_int hb (R _ _ (Nat.le_succ _) ⟨_, z, fun _ => .int _ _⟩) (.inl (PyProof.noPylong_small hs))
theorem J2.ifloordiv {a b : Int} (hb : b ≠ 0) (hs : b.natAbs < 1073741824) (z : Ψ (.int (a.fdiv b))) : J2 prog w B cx (inplaceOp .FloorDiv) (.int a) (.int b) Ψ :=
  J2.int fun s Q E t u R => PyProof.Rows.ifloordiv_int hb (R _ _ (Nat.le_succ _) ⟨_, z, fun _ => .int _ _⟩) (.inl (PyProof.noPylong_small hs))
theorem J2.mod {a b : Int} (hb : b ≠ 0) (z : Ψ (.int (a.fmod b))) : J2 prog w B cx (binaryOp .Mod) (.int a) (.int b) Ψ :=
  J2.int fun s Q E t u R => PyProof.Rows.mod_int hb (R _ _ (Nat.le_succ _) ⟨_, z, fun _ => .int _ _⟩)
theorem J2.pow {a n : Int} (h0 : 0 ≤ n) (h1 : n ≤ 1000000) (ha : a.natAbs < 2 ^ 64) (z : Ψ (.int (a ^ n.toNat))) : J2 prog w B cx (binaryOp .Pow) (.int a) (.int n) Ψ :=
  J2.int fun s Q E t u R => PyProof.Rows.pow_int_small h0 h1 ha (R _ _ (Nat.le_succ _) ⟨_, z, fun _ => .int _ _⟩)
theorem J2.iadd {a b : Int} (z : Ψ (.int (a + b))) : J2 prog w B cx (inplaceOp .Add) (.int a) (.int b) Ψ :=
  J2.int fun s Q E t u R => PyProof.Rows.iadd_int (R _ _ (Nat.le_succ _) ⟨_, z, fun _ => .int _ _⟩)
theorem J2.lt {a b : Int} (z : Ψ (.bool (decide (a < b)))) : J2 prog w B cx (compareOp .Lt) (.int a) (.int b) Ψ :=
  J2.int fun s Q E t u R => PyProof.Rows.lt_int (R _ s.toks (Nat.le_refl _) ⟨_, z, fun _ => .bool _⟩)
theorem J2.le {a b : Int} (z : Ψ (.bool (decide (a ≤ b)))) : J2 prog w B cx (compareOp .LtE) (.int a) (.int b) Ψ :=
  J2.int fun s Q E t u R => PyProof.Rows.le_int (R _ s.toks (Nat.le_refl _) ⟨_, z, fun _ => .bool _⟩)
theorem J2.gt {a b : Int} (z : Ψ (.bool (decide (b < a)))) : J2 prog w B cx (compareOp .Gt) (.int a) (.int b) Ψ :=
  J2.int fun s Q E t u R => PyProof.Rows.gt_int (R _ s.toks (Nat.le_refl _) ⟨_, z, fun _ => .bool _⟩)
theorem J2.ge {a b : Int} (z : Ψ (.bool (decide (b ≤ a)))) : J2 prog w B cx (compareOp .GtE) (.int a) (.int b) Ψ :=
  J2.int fun s Q E t u R => PyProof.Rows.ge_int (R _ s.toks (Nat.le_refl _) ⟨_, z, fun _ => .bool _⟩)
theorem J2.eq {a b : Int} (z : Ψ (.bool (a == b))) : J2 prog w B cx (compareOp .Eq) (.int a) (.int b) Ψ :=
  J2.int fun s Q E t u R => PyProof.Rows.eq_int (R _ s.toks (Nat.le_refl _) ⟨_, z, fun _ => .bool _⟩)
theorem J2.ne {a b : Int} (z : Ψ (.bool (a != b))) : J2 prog w B cx (compareOp .NotEq) (.int a) (.int b) Ψ :=
  J2.int fun s Q E t u R => PyProof.Rows.ne_int (R _ s.toks (Nat.le_refl _) ⟨_, z, fun _ => .bool _⟩)
theorem J1.neg {a : Int} (z : Ψ (.int (-a))) : J1 prog w B cx (unaryOp .USub) (.int a) Ψ := fun G s Q E u o p R => by
  obtain ⟨t, rfl⟩ := p.int
  exact PyProof.Rows.neg_int (R.tok o.keep (.int _ _) z (Nat.le_succ _))

theorem J2.sAdd {x y : Str} (hz : x.length + y.length ≤ sizeLine) (z : Ψ (.str (x ++ y))) : J2 prog w B cx (binaryOp .Add) (.str x) (.str y) Ψ := fun G s Q E u v o p q R => by
  obtain ⟨t, rfl⟩ := p.str
  obtain ⟨t', rfl⟩ := q.str
  refine wpAny_with_toks (Nat.le_refl s.toks) ?_
  exact P.add_str (SB.post_add hz fun t k => fun hk => R.tok o.keep (.str _ _) z hk)
theorem J2.sIadd {x y : Str} (hz : x.length + y.length ≤ sizeLine) (z : Ψ (.str (x ++ y))) : J2 prog w B cx (inplaceOp .Add) (.str x) (.str y) Ψ := fun G s Q E u v o p q R => by
  obtain ⟨t, rfl⟩ := p.str
  obtain ⟨t', rfl⟩ := q.str
  refine wpAny_with_toks (Nat.le_refl s.toks) ?_
  exact P.iadd_str (SB.post_add hz fun t k => fun hk => R.tok o.keep (.str _ _) z hk)
theorem J2.sEq {x y : Str} (z : Ψ (.bool (x == y))) : J2 prog w B cx (compareOp .Eq) (.str x) (.str y) Ψ := fun G s Q E u v o p q R => by
  obtain ⟨t, rfl⟩ := p.str
  obtain ⟨t', rfl⟩ := q.str
  exact PyProof.Rows.eq_str (R.here o.keep (.bool _) z)
theorem J2.sLt {x y : Str} (z : Ψ (.bool (x.cps.toList < y.cps.toList))) : J2 prog w B cx (compareOp .Lt) (.str x) (.str y) Ψ := fun G s Q E u v o p q R => by
  obtain ⟨t, rfl⟩ := p.str
  obtain ⟨t', rfl⟩ := q.str
  exact PyProof.Rows.lt_str (R.here o.keep (.bool _) z)
theorem J2.sGt {x y : Str} (z : Ψ (.bool (y.cps.toList < x.cps.toList))) : J2 prog w B cx (compareOp .Gt) (.str x) (.str y) Ψ := fun G s Q E u v o p q R => by
  obtain ⟨t, rfl⟩ := p.str
  obtain ⟨t', rfl⟩ := q.str
  exact P.gt_str (R.here o.keep (.bool _) z)
theorem J2.sIn {x y : Str} (z : Ψ (.bool (!(occurrences x y 0 x.length 1).isEmpty))) : J2 prog w B cx (compareOp .In) (.str y) (.str x) Ψ := fun G s Q E u v o p q R => by
  obtain ⟨t, rfl⟩ := p.str
  obtain ⟨t', rfl⟩ := q.str
  exact P.in_str (R.here o.keep (.bool _) z)
theorem J2.sNotIn {x y : Str} (z : Ψ (.bool (!(!(occurrences x y 0 x.length 1).isEmpty)))) : J2 prog w B cx (compareOp .NotIn) (.str y) (.str x) Ψ := fun G s Q E u v o p q R => by
  obtain ⟨t, rfl⟩ := p.str
  obtain ⟨t', rfl⟩ := q.str
  exact P.notIn_str (R.here o.keep (.bool _) z)

theorem lstO_IsL {a : Addr} {vs : List Value} {n : Nat} (e : h.get? a = some (lstO vs n)) : IsL h a vs.toArray n := e
theorem lstO_isList {a : Addr} {vs : List Value} {n : Nat} (e : h.get? a = some (lstO vs n)) : h.IsList a vs.toArray := ⟨_, e, rfl, n, rfl⟩
theorem tupO_isTup {a : Addr} {vs : List Value} {n : Nat} (e : h.get? a = some (tupO vs n)) : IsTup h a vs.toArray := ⟨_, e, rfl, n, rfl⟩

theorem J2.lAdd {x y : List D} (hz : x.length + y.length ≤ sizeLine) (z : Ψ (.lst (x ++ y))) : J2 prog w B cx (binaryOp .Add) (.lst x) (.lst y) Ψ := fun G s Q E u v o p q R => by
  obtain ⟨a, vs, n, rfl, e, l⟩ := p.lstAt o.keep
  obtain ⟨b, us, n', rfl, e', l'⟩ := q.lstAt o.keep
  refine P.add_list (lstO_IsL e) (lstO_IsL e') ?_ (by rw [List.size_toArray, List.size_toArray, l.length, l'.length]; exact hz)
  have g := Grow.push (G := G) (h := s.heap) (o := lstO (vs ++ us) 0) o.keep
  refine R _ _ _ s.toks _ ?_ (.lst (n := 0) (GMap.put_self G s.heap.objs.size (lstO (vs ++ us) 0)) ((l.append l').mono g.gg)) (Nat.le_refl _) z
  rw [List.append_toArray]; exact g

/-- an item: the type's own getitem too -/
noncomputable def JG (prog : Program) (w : World) {K : Frag} (B : Base K) (cx : Cx) (a b : D) (Ψ : D → Prop) : Prop :=
  ∀ G (s : Shared) (Q : Value → Shared → Prop) (E : Value → Shared → Prop) (u v : Value), Ok B G s → Vis prog w G s.heap u a → Vis prog w G s.heap v b → Ret (fun G' _ => Rep prog w G') G s Ψ Q →
    ∃ T id, s.TypeIs u T ∧ typeLookup (.type T) "__getitem__" = pure (some (.builtin id)) ∧ wpAny (model prog w) cx.A (getItem u v) Q E s

theorem subscripted_ops (slice : Expr) (o i : Value) : ∃ ops, subscripted slice false o i = operate ops (getItem o i) := by
  unfold subscripted
  split
  · exact ⟨_, rfl⟩
  · rename_i q; cases q
  · exact ⟨_, rfl⟩

theorem WE.sub {value slice : Expr} {p : Pos} (x : WV prog w B cx value (fun a => WV prog w B cx slice (fun b => JG prog w B cx a b Ψ) ρ) ρ) : WE prog w B cx (.Subscript value slice p) Ψ ρ := fun O G s Q E S tk R => by
  refine Subscript_ (x O G s _ E S tk fun v a h₁ t₁ G₁ k₁ p₁ u₁ z₁ => ?_)
  refine z₁ O G₁ _ _ E (S.grow k₁) (Nat.lt_of_lt_of_le tk u₁) fun u b h₂ t₂ G₂ k₂ p₂ u₂ z₂ => ?_
  obtain ⟨T, id, hT, hl, hw⟩ := z₂ G₂ _ Q E v u (((S.ok tk).grow k₁ u₁).grow k₂ u₂) (p₁.grow k₂) p₂ ((R.after k₁ u₁ fun _ z => z).after k₂ u₂ fun _ z => z)
  obtain ⟨ops, ho⟩ := subscripted_ops slice v u
  exact tail_any hT hl hw ho

theorem JG.lst {ds : List D} {i : Int} {d : D} (h0 : 0 ≤ i) (hi : ds[i.toNat]? = some d) (hb : i < 2 ^ 63) (z : Ψ d) : JG prog w B cx (.lst ds) (.int i) Ψ := fun G s Q E u v o p q R => by
  obtain ⟨a, vs, n, rfl, e, l⟩ := p.lstAt o.keep
  obtain ⟨t, rfl⟩ := q.int
  obtain ⟨x, hx, r⟩ := l.get _ _ hi
  refine ⟨"list", _, (lstO_isList e).typeIs, slot_list_getitem.lookup, ?_⟩
  exact wpAny_getItem_list (lstO_isList e) h0 hb (by simpa using hx) (R.here o.keep r z)
theorem JG.tup {ds : List D} {i : Int} {d : D} (h0 : 0 ≤ i) (hi : ds[i.toNat]? = some d) (hb : i < 2 ^ 63) (z : Ψ d) : JG prog w B cx (.tup ds) (.int i) Ψ := fun G s Q E u v o p q R => by
  obtain ⟨a, vs, n, rfl, e, l⟩ := p.tupAt
  obtain ⟨t, rfl⟩ := q.int
  obtain ⟨x, hx, r⟩ := l.get _ _ hi
  have T := tupO_isTup (o.keep _ _ e)
  have hlt : i.toNat < ds.length := (List.getElem?_eq_some_iff.mp hi).1
  refine ⟨"tuple", _, T.typeIs, slot_tuple_getitem.lookup, ?_⟩
  exact PyProof.Rows.getItem_tuple T (by omega) hb (seqIndex_of h0 (by rw [List.size_toArray, l.length]; omega)) (by simpa using hx) (R.here o.keep r z)

theorem RepK.find : ∀ {kvs : List (Str × Value)} {ds : List (Str × D)}, RepK prog w G kvs ds → ∀ {k : Str} {d : D}, ds.lookup k = some d → ∃ v, valueAt kvs k = some v ∧ Rep prog w G v d
  | _, [], _, _, _, e => by cases e
  | _, (k', d') :: ds, r₀, k, d, e => by
    obtain ⟨v, us, rfl, h, l⟩ := r₀.more
    rw [List.lookup_cons] at e
    by_cases q : k = k'
    · subst q
      simp only [beq_self_eq_true] at e
      cases e
      exact ⟨v, by simp [valueAt], h⟩
    · have : (k == k') = false := by simpa using q
      rw [this] at e
      obtain ⟨v', e', r⟩ := RepK.find l e
      refine ⟨v', ?_, r⟩
      have q' : ¬ k' = k := fun z => q z.symm
      simpa [valueAt, q, q'] using e'
theorem RepK.findNone : ∀ {kvs : List (Str × Value)} {ds : List (Str × D)}, RepK prog w G kvs ds → ∀ {k : Str}, ds.lookup k = Option.none → valueAt kvs k = Option.none
  | _, [], r₀, _, e => by rw [r₀.none]; rfl
  | _, (k', d') :: ds, r₀, k, e => by
    obtain ⟨v, us, rfl, h, l⟩ := r₀.more
    rw [List.lookup_cons] at e
    by_cases q : k = k'
    · subst q
      simp only [beq_self_eq_true] at e
      cases e
    · have : (k == k') = false := by simpa using q
      rw [this] at e
      have e' := RepK.findNone l e
      have q' : ¬ k' = k := fun z => q z.symm
      simpa [valueAt, q, q'] using e'
theorem RepK.length : ∀ {kvs : List (Str × Value)} {ds : List (Str × D)}, RepK prog w G kvs ds → kvs.length = ds.length
  | _, [], r₀ => by rw [r₀.none]; rfl
  | _, (k', d') :: ds, r₀ => by
    obtain ⟨v, us, rfl, h, l⟩ := r₀.more
    exact congrArg (· + 1) l.length

theorem JG.dic {ds : List (Str × D)} {k : Str} {d : D} (hi : ds.lookup k = some d) (z : Ψ d) : JG prog w B cx (.dic ds) (.str k) Ψ := fun G s Q E u v o p q R => by
  obtain ⟨a, ob, kvs, rfl, hs, e, i, l⟩ := p.dicAt o.keep
  obtain ⟨t, rfl⟩ := q.str
  obtain ⟨x, hx, r⟩ := l.find hi
  have D : s.heap.DictOf (strKind prog w) a kvs := Heap.dictOf_iff.mpr ⟨ob, e, i⟩
  refine ⟨"dict", _, D.mapOf.typeIs, slot_dict_getitem.lookup, ?_⟩
  exact wpAny_getItem_of (strKind_is prog w k t) D.mapOf hx (R.tok o.keep r z (Nat.le_succ _))
end
end

open PySem.Builtin.Str (occurrences)
section

noncomputable def noStar : Expr → Bool
  | .Starred .. => false
  | _ => true
theorem starEach_cons {e : Expr} {es : List Expr} (h : noStar e = true) (env : PySem.Env) : starEach (e :: es) env = (false, eval e env) :: starEach es env := by
  cases e with
  | Starred => cases h
  | _ => rfl
theorem starEach_plain : ∀ {es : List Expr}, es.all noStar = true → ∀ env pos, backTo pos (starEach es env) = es.map fun e => (false, eval e env)
  | [], _, _, _ => rfl
  | e :: es, h, env, pos => by
    rw [List.all_cons, Bool.and_eq_true] at h
    rw [starEach_cons h.1]
    show (false, eval e env) :: backTo pos (starEach es env) = _
    rw [starEach_plain h.2 env pos]; rfl
theorem plain_any : ∀ (es : List Expr) (env : PySem.Env), (es.map fun e => (false, eval e env)).any (·.1) = false
  | [], _ => rfl
  | _ :: es, env => by rw [List.map_cons, List.any_cons, plain_any es env]; rfl

section
variable {prog : Program} {w : World} {K : Frag} {B : Base K} {cx : Cx} {O : List Addr} {G G' : GMap} {h h' : Heap} {ρ : List (Str × D)} {Ψ : D → Prop}

noncomputable def WA (prog : Program) (w : World) {K : Frag} (B : Base K) (cx : Cx) (es : List Expr) (Φ : List D → Prop) (ρ : List (Str × D)) : Prop :=
  (∀ pos, (backTo pos (starEach es cx.env)).any (·.1) = false) ∧ ∀ f pos O G (s : Shared) (Q : Args → Shared → Prop) (E : Value → Shared → Prop), St prog w B cx O G s.heap ρ → 0 < s.toks →
    (∀ vs ds h' tk' G', Grow G s.heap G' h' → RepL prog w G' vs ds → s.toks ≤ tk' → Φ ds → Q ⟨vs, []⟩ { s with heap := h', toks := tk' }) →
    wpAny (model prog w) cx.A (evalArgs f true (backTo pos (starEach es cx.env)) []) Q E s
theorem WA.nil {Φ : List D → Prop} (z : Φ []) : WA prog w B cx [] Φ ρ := ⟨fun _ => rfl, fun f pos O G s Q E S tk R =>
  evalArgs_nil3 (R [] [] s.heap s.toks G (Grow.refl S.keep) .nil (Nat.le_refl _) z)⟩
theorem WA.of {e : Expr} {es : List Expr} {Φ : List D → Prop} (x : WL prog w B cx (e :: es) Φ ρ) (hs : (e :: es).all noStar = true := by rfl) : WA prog w B cx (e :: es) Φ ρ := by
  refine ⟨fun pos => by rw [starEach_plain hs]; exact plain_any _ _, fun f pos O G s Q E S tk R => ?_⟩
  have x' := x pos O G s (fun vs s' => Q ⟨vs, []⟩ s') E S tk R
  rw [starEach_plain hs] at x' ⊢
  exact evalArgs_plain x'

/-- a value whose keeper is plain -/
noncomputable def Keeps (K : Frag) (f : Value) : Prop := ∀ M (h : Heap), K.In h → ∃ k, (k = Keeper.frame ∨ k = Keeper.machine ∨ k = Keeper.boundFrame) ∧ Looks M h (keeperOf f) k
theorem Keeps.ref {K : Frag} {a : Addr} (hk : keepIn K (.ref a) = true) : Keeps K (.ref a) := fun M h X => keeps_K hk h X
theorem Keeps.builtin {K : Frag} {id : String} : Keeps K (.builtin id) := fun M h X => ⟨.machine, .inr (.inl rfl), Looks.now⟩
theorem Keeps.type {K : Frag} {n : String} : Keeps K (.type n) := fun M h X => ⟨.machine, .inr (.inl rfl), Looks.now⟩

theorem St.frag {s : Shared} (S : St prog w B cx O G s.heap ρ) : K.In s.heap := B.X.keeps fun b o e => S.keep b o (S.base b o e)
theorem Ok.frag {s : Shared} (S : Ok B G s) : K.In s.heap := B.X.keeps fun b o e => S.keep b o (S.base b o e)

/-- the call itself, its callee and first arguments at hand -/
theorem callWith_at {f : Value} {first : List Value} {es : List Expr} {pos : Pos} {Φ : List D → Prop} (hk : Keeps K f) (x : WA prog w B cx es Φ ρ) {s : Shared} {Q : Value → Shared → Prop} {E : Value → Shared → Prop}
    (S : St prog w B cx O G s.heap ρ) (tk : 0 < s.toks)
    (R : ∀ vs ds h' tk' G', Grow G s.heap G' h' → RepL prog w G' vs ds → s.toks ≤ tk' → Φ ds → wpAny (model prog w) cx.A (call f (first ++ vs) []) Q E { s with heap := h', toks := tk' }) :
    wpAny (model prog w) cx.A (callWith pos f first (backTo pos (starEach es cx.env)) []) Q E s := by
  refine callWith_of (P := fun h => K.In h) (by rw [x.1]; rfl) (fun h X => hk _ h X) ?_
  refine x.2 f pos O G s _ E S tk fun vs ds h' tk' G' k p t z => ⟨(S.grow k).frag (s := { s with heap := h', toks := tk' }), R vs ds h' tk' G' k p t z⟩

theorem St.glob {s : Shared} (S : St prog w B cx O G s.heap ρ) : s.heap.Ns cx.env.globals B.mg := by
  rw [cx.globals]; exact B.g.keeps fun b o e => S.keep b o (S.base b o e)
theorem St.bltn {s : Shared} (S : St prog w B cx O G s.heap ρ) : s.heap.Ns cx.env.builtins B.mb := by
  rw [cx.builtins]; exact B.b.keeps fun b o e => S.keep b o (S.base b o e)

theorem eval_global {f : Str} {p : Pos} {v : Value} {s : Shared} {Q : Value → Shared → Prop} {E : Value → Shared → Prop} (S : St prog w B cx O G s.heap ρ) (hx : cx.env.kindOf f = some .globalImplicit)
    (hn : nsIn K mainGlobals f = some (some v)) (hd : (f == ("__debug__" : Str)) = false) (h : Q v s) : wpAny (model prog w) cx.A (eval (.Name f p) cx.env) Q E s := by
  refine wpAny_Name ?_ hd
  rw [loadName_read cx.kind hx]
  exact loadGlobal_global S.glob (mg_of B.X B.g hn) h
theorem eval_builtin {f : Str} {p : Pos} {v : Value} {s : Shared} {Q : Value → Shared → Prop} {E : Value → Shared → Prop} (S : St prog w B cx O G s.heap ρ) (hx : cx.env.kindOf f = some .globalImplicit)
    (hn : nsIn K mainGlobals f = some Option.none) (hb : bootBuiltins f = some v) (hm : f ≠ "__name__") (hd : (f == ("__debug__" : Str)) = false) (h : Q v s) : wpAny (model prog w) cx.A (eval (.Name f p) cx.env) Q E s := by
  refine wpAny_Name ?_ hd
  rw [loadName_read cx.kind hx]
  exact loadGlobal_builtin S.glob (mg_none_of B.X B.g hn) S.bltn ((B.bt f hm).trans hb) h

theorem WE.callG {f : Str} {p p' : Pos} {a : Addr} {es : List Expr} (x : WA prog w B cx es (fun ds => JC prog w B cx (.ref a) ds Ψ) ρ) (hx : cx.env.kindOf f = some .globalImplicit) (hn : nsIn K mainGlobals f = some (some (.ref a))) (hk : keepIn K (.ref a) = true)
    (hd : (f == ("__debug__" : Str)) = false := by rfl) : WE prog w B cx (.Call (.Name f p) es [] p') Ψ ρ := fun O G s Q E S tk R => by
  show wpAny _ _ (do callWith p' (← eval (.Name f p) cx.env) [] (backTo p' (starEach es cx.env)) []) Q E s
  refine wpAny_bind (eval_global S hx hn hd ?_)
  refine callWith_at (Keeps.ref hk) x S tk fun vs ds h' tk' G' k r t z => ?_
  exact z G' _ Q E vs ((S.ok tk).grow k t) r (R.after k t fun _ z => z)

theorem WE.callB {f : Str} {p p' : Pos} {id : String} {es : List Expr} (x : WA prog w B cx es (fun ds => JC prog w B cx (.builtin id) ds Ψ) ρ) (hx : cx.env.kindOf f = some .globalImplicit) (hn : nsIn K mainGlobals f = some Option.none) (hb : bootBuiltins f = some (.builtin id))
    (hm : f ≠ "__name__" := by decide) (hd : (f == ("__debug__" : Str)) = false := by rfl) : WE prog w B cx (.Call (.Name f p) es [] p') Ψ ρ := fun O G s Q E S tk R => by
  show wpAny _ _ (do callWith p' (← eval (.Name f p) cx.env) [] (backTo p' (starEach es cx.env)) []) Q E s
  refine wpAny_bind (eval_builtin S hx hn hb hm hd ?_)
  refine callWith_at Keeps.builtin x S tk fun vs ds h' tk' G' k r t z => ?_
  exact z G' _ Q E vs ((S.ok tk).grow k t) r (R.after k t fun _ z => z)

/-- one argument, seen -/
theorem WE.call1 {f : Str} {p p' : Pos} {fv : Value} {e : Expr} (x : WV prog w B cx e (fun a => J1 prog w B cx (fun v => call fv [v] []) a Ψ) ρ) (hx : cx.env.kindOf f = some .globalImplicit) (hn : nsIn K mainGlobals f = some Option.none) (hb : bootBuiltins f = some fv)
    (hk : ∀ K, Keeps K fv) (hs : noStar e = true := by rfl) (hm : f ≠ "__name__" := by decide) (hd : (f == ("__debug__" : Str)) = false := by rfl) : WE prog w B cx (.Call (.Name f p) [e] [] p') Ψ ρ := fun O G s Q E S tk R => by
  show wpAny _ _ (do callWith p' (← eval (.Name f p) cx.env) [] (backTo p' (starEach [e] cx.env)) []) Q E s
  refine wpAny_bind (eval_builtin S hx hn hb hm hd ?_)
  rw [starEach_plain (es := [e]) (by rw [List.all_cons, hs]; rfl)]
  refine callWith_of (P := fun h => K.In h) rfl (fun h X => hk K _ h X) ?_
  refine evalArgs_plain (spliced_cons (x O G s _ E S tk fun v d h' tk' G' k r t z => spliced_nil ⟨(S.grow k).frag (s := { s with heap := h', toks := tk' }), ?_⟩))
  exact z G' _ Q E v ((S.ok tk).grow k t) r (R.after k t fun _ z => z)

theorem J1.lenL {ds : List D} (hz : ds.length < 2 ^ 62) (z : Ψ (.int ds.length)) : J1 prog w B cx (fun v => call (.builtin "len") [v] []) (.lst ds) Ψ := fun G s Q E u o p R => by
  obtain ⟨a, vs, n, rfl, e, l⟩ := p.lstAt o.keep
  refine call_len_list (lstO_isList e) (by rw [List.size_toArray, l.length]; omega) ?_
  rw [List.size_toArray, l.length]
  exact R.tok o.keep (.int _ _) z (by omega)
theorem J1.lenT {ds : List D} (hz : ds.length < 2 ^ 62) (z : Ψ (.int ds.length)) : J1 prog w B cx (fun v => call (.builtin "len") [v] []) (.tup ds) Ψ := fun G s Q E u o p R => by
  obtain ⟨a, vs, n, rfl, e, l⟩ := p.tupAt
  refine PyProof.Rows.len_tuple (tupO_isTup (o.keep _ _ e)) (by rw [List.size_toArray, l.length]; omega) ?_
  rw [List.size_toArray, l.length]
  exact R.tok o.keep (.int _ _) z (by omega)
theorem J1.lenS {x : Str} (hz : x.length < 2 ^ 62) (z : Ψ (.int x.length)) : J1 prog w B cx (fun v => call (.builtin "len") [v] []) (.str x) Ψ := fun G s Q E u o p R => by
  obtain ⟨t, rfl⟩ := p.str
  exact P.len_str (by omega) (R.tok o.keep (.int _ _) z (by omega))
theorem J1.tuple {ds : List D} (hz : ds.length ≤ sizeLine) (z : Ψ (.tup ds)) : J1 prog w B cx (fun v => call (.type "tuple") [v] []) (.lst ds) Ψ := fun G s Q E u o p R => by
  obtain ⟨a, vs, n, rfl, e, l⟩ := p.lstAt o.keep
  refine call_tuple_list (lstO_isList e) (fun h₁ hk => ?_) (by rw [List.size_toArray, l.length]; exact hz)
  have g₀ := Grow.heap o.keep hk
  have g := Grow.push (G := G) (h := h₁) (o := tupO vs 0) g₀.gh
  exact R _ _ _ s.toks _ (g₀.trans g) (.tup (GMap.put_self ..) (l.mono g.gg)) (Nat.le_refl _) z

theorem JC.max {a b : Int} (z : Ψ (.int (if b > a then b else a))) : JC prog w B cx (.builtin "max") [.int a, .int b] Ψ := fun G s Q E vs o p R => by
  cases p with | cons p1 p => cases p1 with | int _ t => cases p with | cons p2 p => cases p2 with | int _ t' => cases p with | nil =>
  refine wpAny_with_toks (Nat.le_refl s.toks) (max_two_ints cx.handled fun h' tk hk ht => ?_)
  have : (if b > a then Value.int b t' else .int a t) = .int (if b > a then b else a) (if b > a then t' else t) := by split <;> rfl
  rw [this]
  exact R _ _ _ _ _ (Grow.heap o.keep hk) (.int _ _) ht z
theorem JC.min {a b : Int} (z : Ψ (.int (if b < a then b else a))) : JC prog w B cx (.builtin "min") [.int a, .int b] Ψ := fun G s Q E vs o p R => by
  cases p with | cons p1 p => cases p1 with | int _ t => cases p with | cons p2 p => cases p2 with | int _ t' => cases p with | nil =>
  refine wpAny_with_toks (Nat.le_refl s.toks) (min_two_ints cx.handled fun h' tk hk ht => ?_)
  have : (if b < a then Value.int b t' else .int a t) = .int (if b < a then b else a) (if b < a then t' else t) := by split <;> rfl
  rw [this]
  exact R _ _ _ _ _ (Grow.heap o.keep hk) (.int _ _) ht z

end
end

open PySem.Builtin.Str (occurrences)
section
section
variable {prog : Program} {w : World} {K : Frag} {B : Base K} {cx : Cx} {O : List Addr} {G G' : GMap} {h h' : Heap} {ρ : List (Str × D)} {Ψ : D → Prop}

theorem RepF.find : ∀ {es : List DictEntry} {fs : List (Str × D)}, RepF prog w G es fs → ∀ {k : Str} {d : D}, fs.lookup k = some d → ∃ v, getL k es = some (some v) ∧ Rep prog w G v d
  | _, [], _, _, _, e => by cases e
  | _, (k', d') :: ds, r₀, k, d, e => by
    obtain ⟨hs, t, v, vs, rfl, h, l⟩ := r₀.more
    rw [List.lookup_cons] at e
    by_cases q : k = k'
    · subst q
      simp only [beq_self_eq_true] at e
      cases e
      refine ⟨v, ?_, h⟩
      unfold getL
      rw [List.find?_cons_of_pos (by simp [Value.isStr])]
    · have : (k == k') = false := by simpa using q
      rw [this] at e
      obtain ⟨v', e', r⟩ := RepF.find l e
      refine ⟨v', ?_, r⟩
      have q' : ¬ k' = k := fun z => q z.symm
      unfold getL at e' ⊢
      rw [List.find?_cons_of_neg (by simpa [Value.isStr] using q')]
      split at e'
      · exact e'
      · rename_i he
        split at e' <;> cases e'
theorem RepF.noRef : ∀ {es : List DictEntry} {fs : List (Str × D)}, RepF prog w G es fs → es.any (·.refKey) = false
  | _, [], r₀ => by rw [r₀.none]; rfl
  | _, (k', d') :: ds, r₀ => by
    obtain ⟨hs, t, v, vs, rfl, h, l⟩ := r₀.more
    rw [List.any_cons, RepF.noRef l]; rfl
theorem RepF.findNone : ∀ {es : List DictEntry} {fs : List (Str × D)}, RepF prog w G es fs → ∀ {k : Str}, fs.lookup k = Option.none → es.find? (·.key.isStr k) = Option.none
  | _, [], r₀, _, e => by rw [r₀.none]; rfl
  | _, (k', d') :: ds, r₀, k, e => by
    obtain ⟨hs, t, v, vs, rfl, h, l⟩ := r₀.more
    rw [List.lookup_cons] at e
    by_cases q : k = k'
    · subst q
      simp only [beq_self_eq_true] at e
      cases e
    · have : (k == k') = false := by simpa using q
      rw [this] at e
      have q' : ¬ k' = k := fun z => q z.symm
      rw [List.find?_cons_of_neg (by simpa [Value.isStr] using q')]
      exact RepF.findNone l e
theorem RepF.getNone {es : List DictEntry} {fs : List (Str × D)} (l : RepF prog w G es fs) {k : Str} (e : fs.lookup k = Option.none) : getL k es = some Option.none := by
  unfold getL
  rw [l.findNone e, l.noRef]; rfl
theorem RepF.length : ∀ {es : List DictEntry} {fs : List (Str × D)}, RepF prog w G es fs → es.length = fs.length
  | _, [], r₀ => by rw [r₀.none]; rfl
  | _, (k', d') :: ds, r₀ => by
    obtain ⟨hs, t, v, vs, rfl, h, l⟩ := r₀.more
    exact congrArg (· + 1) l.length

noncomputable def putF (k : Str) (d : D) : List (Str × D) → List (Str × D)
  | [] => [(k, d)]
  | e :: r => if e.1 = k then (e.1, d) :: r else e :: putF k d r
theorem RepF.put {k : Str} {t : Tok} {hs : Int} {v : Value} {d : D} (hv : Rep prog w G v d) : ∀ {es : List DictEntry} {fs : List (Str × D)}, RepF prog w G es fs → RepF prog w G (putL k hs (.str k t) v es) (putF k d fs)
  | _, _, .nil => .cons hv .nil
  | _, _, .cons (k := k') (v := v') (vs := vs) (hs := hs') (t := t') (ds := ds) h l => by
    unfold putL putF
    by_cases q : k' = k
    · subst q
      rw [if_pos (by simp [Value.isStr]), if_pos rfl]
      exact .cons hv l
    · rw [if_neg (by simpa [Value.isStr] using q), if_neg (by simpa using q)]
      exact .cons h (RepF.put hv l)
theorem putL_length_le (k : Str) (hs : Int) (key v : Value) : ∀ es : List DictEntry, (putL k hs key v es).length ≤ es.length + 1
  | [] => Nat.le_refl _
  | e :: r => by
    unfold putL
    split
    · simp
    · have := putL_length_le k hs key v r
      simp only [List.length_cons]; omega

theorem handed_rep {v : Value} {d : D} : Rep prog w G v d → handedIn v = true
  | .none => rfl
  | .bool _ => rfl
  | .int _ _ => rfl
  | .str _ _ => rfl
  | .glob _ => rfl
  | .tup _ _ => rfl
  | .lst _ _ => rfl
  | .dic _ _ _ _ => rfl
  | .obj _ _ _ => rfl

theorem instAt {x dx C : Addr} {es : List DictEntry} {n : Nat} (e : h.get? x = some (instObj C dx)) (e' : h.get? dx = some (dictOf es n)) : PySem.W.InstAt h x (instObj C dx) C (some (dictOf es n)) := ⟨e, rfl, rfl, e'⟩

theorem WE.attr {value : Expr} {attr : Str} {pos : Pos} (x : WV prog w B cx value (fun a => J1 prog w B cx (fun v => getAttr v attr true) a Ψ) ρ)
    (he : eval (.Attribute value attr pos) cx.env = (do let o ← eval value cx.env; standAt pos.atName; let r ← holding [o] (getAttr o attr true); letTemporaryGo value o r; pure r) := by with_unfolding_all rfl) :
    WE prog w B cx (.Attribute value attr pos) Ψ ρ := fun O G s Q E S tk R => by
  refine Attribute_any_ (x O G s _ E S tk fun v a h₁ t₁ G₁ k₁ p₁ u₁ z₁ => ?_) he
  exact z₁ G₁ _ Q E v ((S.ok tk).grow k₁ u₁) p₁ (R.after k₁ u₁ fun _ z => z)

theorem J1.attr {C : Addr} {fs : List (Str × D)} {attr : Str} {d : D} {b : Bool} (hl : fs.lookup attr = some d) (z : Ψ d) (hg : plainGet K C attr = true) (hh : hasDictIn K C = true) (ha : findIn K (.ref C) attr = some Option.none) :
    J1 prog w B cx (fun v => getAttr v attr b) (.obj C fs) Ψ := fun G s Q E u o p R => by
  obtain ⟨x, dx, es, n, rfl, e, e', l⟩ := p.objAt o.keep
  obtain ⟨v, hv, r⟩ := l.find hl
  exact PySem.W.get_value o.frag (instAt e e') (plainGet_of hg).1 (PySem.W.findObj_own hh ha rfl hv) (handed_rep r) (R.tok o.keep r z (Nat.le_succ _))

theorem J1.clsAttr {C : Addr} {attr x : Str} {mc : Value} {t : Tok} {b : Bool} (z : Ψ (.str x)) (hr : readsIn K C mc = true) (e : findCls K (.ref C) mc attr = some (.val (.str x t))) :
    J1 prog w B cx (fun v => getAttr v attr b) (.glob C) Ψ := fun G s Q E u o p R => by
  rw [p.glob]
  exact PySem.W.cls_value o.frag hr e rfl (R.tok o.keep (.str _ _) z (Nat.le_succ _))

theorem WE.glob {f : Str} {p : Pos} {a : Addr} (z : Ψ (.glob a)) (hx : cx.env.kindOf f = some .globalImplicit) (hn : nsIn K mainGlobals f = some (some (.ref a))) (hd : (f == ("__debug__" : Str)) = false := by rfl) :
    WE prog w B cx (.Name f p) Ψ ρ := fun O G s Q E S tk R => eval_global S hx hn hd (R.here S.keep (.glob _) z)

/-- an object's method, called -/
theorem WE.meth {o : Expr} {name : Str} {apos pos : Pos} {args : List Expr} {pl : Sem Bool}
    (x : WE prog w B cx o (fun d => ∃ C fs f, d = .obj C fs ∧ fs.lookup name = Option.none ∧ plainGet K C name = true ∧ findIn K (.ref C) name = some (some (.ref f)) ∧ isFn K (.ref f) = true ∧ keepIn K (.ref f) = true ∧
      WA prog w B cx args (fun ds => JC prog w B cx (.ref f) (d :: ds) Ψ) ρ) ρ)
    (he : eval (.Call (.Attribute o name apos) args [] pos) cx.env = (do let ov ← eval o cx.env; standAt apos.atName; let (f, first) ← holding [ov] (getMethod ov name pl); callWith pos f first (backTo pos (starEach args cx.env)) []) := by rfl) :
    WE prog w B cx (.Call (.Attribute o name apos) args [] pos) Ψ ρ := fun O G s Q E S tk R => by
  refine PyProof.Rows.MethodCall_ (x O G s _ E S tk fun v d h₁ t₁ G₁ k₁ p₁ u₁ z₁ => ?_) he
  obtain ⟨C, fs, f, rfl, hn, hg, hf, ht, hk, y⟩ := z₁
  obtain ⟨xa, dx, es, n, rfl, e, e', l⟩ := p₁.objAt
  have o₁ := (S.ok tk).grow k₁ u₁
  refine method_fn o₁.frag (instAt (k₁.gh _ _ e) (k₁.gh _ _ e')) (plainGet_of hg).1 (plainGet_of hg).2 hf (beq_iff_eq.mp ht) (by show (lookIn name (dictOf es n)).map _ = _; rw [lookIn_dict, l.getNone hn]; rfl) ?_
  refine callWith_at (Keeps.ref hk) y (s := { s with heap := h₁, toks := t₁ }) (S.grow k₁) (Nat.lt_of_lt_of_le tk u₁) fun vs ds h₂ t₂ G₂ k₂ p₂ u₂ z₂ => ?_
  exact z₂ G₂ _ Q E (.ref xa :: vs) (o₁.grow k₂ u₂) (.cons ((Rep.obj e e' l).mono k₂.gg) p₂) ((R.after k₁ u₁ fun _ z => z).after k₂ u₂ fun _ z => z)

noncomputable def J2E (prog : Program) (w : World) {K : Frag} (B : Base K) (cx : Cx) (f : Value → Value → Sem Value) (a b : D) (Ψ : D → Prop) : Prop :=
  ∀ G (s : Shared) (Q : Value → Shared → Prop) (E : Value → Shared → Prop) (u v : Value), Ok B G s → Rep prog w G u a → Rep prog w G v b → Ret (fun G' _ => Rep prog w G') G s Ψ Q → wpAny (model prog w) cx.A (f u v) Q E s

theorem WB.compareE {l r : Expr} {op : CmpOp} {p : Pos} {Φ : Bool → Prop} (x : WE prog w B cx l (fun a => WE prog w B cx r (fun b => J2E prog w B cx (compareOp op) a b (fun c => ∃ q, c = .bool q ∧ Φ q)) ρ) ρ) (hm : behindInMarks op r = false := by with_unfolding_all rfl) :
    WB prog w B cx (.Compare l [op] [r] p) Φ ρ := fun O G s Q E S tk R => by
  refine wpAny_isTrue_Compare1 (x O G s _ E S tk fun v a h₁ t₁ G₁ k₁ p₁ u₁ z₁ => ?_) hm
  refine z₁ O G₁ _ _ E (S.grow k₁) (Nat.lt_of_lt_of_le tk u₁) fun u b h₂ t₂ G₂ k₂ p₂ u₂ z₂ => ?_
  refine z₂ G₂ _ _ E v u (((S.ok tk).grow k₁ u₁).grow k₂ u₂) (p₁.mono k₂.gg) p₂ fun c d h₃ t₃ G₃ k₃ p₃ u₃ z₃ => ?_
  obtain ⟨q, rfl, z⟩ := z₃
  cases p₃
  exact wpAny_truthy_bool (R q h₃ t₃ G₃ ((k₁.trans k₂).trans k₃) (Nat.le_trans (Nat.le_trans u₁ u₂) u₃) z)

/-- two objects compared by the first one's own method -/
theorem J2E.obj {op : CmpOp} {C C' f : Addr} {fs fs' : List (Str × D)} (hop : ∀ u v, compareOp op u v = richCompare op u v) (hn : notFirst K C (.ref C') = true) (hs : findIn K (.ref C) (cmpInfo op).2.1 = some (some (.ref f))) (hf : isFn K (.ref f) = true)
    (x : JC prog w B cx (.ref f) [.obj C fs, .obj C' fs'] (fun d => ∃ b, d = .bool b ∧ Ψ (.bool b))) (hu : cx.A.units < cLine) :
    J2E prog w B cx (compareOp op) (.obj C fs) (.obj C' fs') Ψ := fun G s Q E u v o r1 r2 R => by
  have oX := o.frag
  rw [hop]
  obtain ⟨xa, dx, es, n, rfl, e, e', l⟩ := r1.objAt
  obtain ⟨xb, dx', es', n', rfl, e2, e2', l'⟩ := r2.objAt
  have I := instAt (o.keep _ _ e) (o.keep _ _ e')
  have I' := instAt (o.keep _ _ e2) (o.keep _ _ e2')
  have one : wpAny (model prog w) cx.A (tryCompare (.ref xa) (cmpInfo op).2.1 (.ref xb)) (fun r s' => ∃ v, r = some v ∧ Q v s') E s := by
    unfold tryCompare
    refine wpAny_bind (ifBound_K oX I hs hf (x G s _ E [.ref xa, .ref xb] o (.cons r1 (.cons r2 .nil)) fun v d h' tk' G' k p t z => ?_))
    obtain ⟨b, rfl, z⟩ := z
    cases p
    exact wpAny_pure ⟨_, rfl, R _ _ _ _ _ k (.bool _) t z⟩
  unfold richCompare
  simp only [oneThing_ref]
  refine wpAny_holding (wpAny_bind (wpAny_cRoomFor hu ?_))
  refine wpAny_bind (I.type.here (wpAny_bind (I'.type.here ?_)))
  split
  · rename_i q
    have es : subIn K (.ref C') (.ref C) = some false := by
      rcases Bool.or_eq_true_iff.mp hn with e | e
      · rw [beq_iff_eq.mp e] at q; simp at q
      · exact beq_iff_eq.mp e
    refine wpAny_bind ((looks_subIn oX es).here ?_)
    simp only [Bool.false_eq_true, if_false]
    refine wpAny_bind (wpAny_mono one (fun r s' z => ?_) fun _ _ e => e)
    obtain ⟨v, rfl, hq⟩ := z
    exact wpAny_pure hq
  · refine wpAny_bind (wpAny_pure ?_)
    simp only [Bool.false_eq_true, if_false]
    refine wpAny_bind (wpAny_mono one (fun r s' z => ?_) fun _ _ e => e)
    obtain ⟨v, rfl, hq⟩ := z
    exact wpAny_pure hq

theorem JC.isinst {C : Addr} {fs : List (Str × D)} (z : Ψ (.bool true)) (hi : isIn K (.ref C) C = true) : JC prog w B cx (.builtin "isinstance") [.obj C fs, .glob C] Ψ := fun G s Q E vs o p R => by
  cases p with | cons p1 p => cases p with | cons p2 p => cases p with | nil =>
  obtain ⟨xa, dx, es, n, rfl, e, e', l⟩ := p1.objAt
  cases p2
  exact isi_call o.frag (fun M => (instAt (o.keep _ _ e) (o.keep _ _ e')).type) hi (by intro q; cases q) (R.here o.keep (.bool _) z)
end
end

open PySem.Builtin.Str (occurrences)
section

inductive Fl where
  | next | brk | cont
  | ret (d : D)

/-- a statement's heap step -/
structure Step (O : List Addr) (G : GMap) (h : Heap) (O' : List Addr) (G' : GMap) (h' : Heap) : Prop where
  al : ∀ a ∈ O, ∃ o, h'.get? a = some o
  on : ∀ a ∈ O', a ∈ O ∨ h.get? a = Option.none
  ex : ∀ a ∈ O', ∃ o, h'.get? a = some o
  gg : GLe G G'
  keep : ∀ a o, a ∉ O → h.get? a = some o → h'.get? a = some o
  new : ∀ a o, a ∉ O → h.get? a = some o → G a = Option.none → G' a = Option.none

theorem Step.trans {O O₁ O₂ : List Addr} {G G₁ G₂ : GMap} {h h₁ h₂ : Heap} (x : Step O G h O₁ G₁ h₁) (y : Step O₁ G₁ h₁ O₂ G₂ h₂) : Step O G h O₂ G₂ h₂ := by
  have nin : ∀ a o, a ∉ O → h.get? a = some o → a ∉ O₁ := fun a o n e q => by
    rcases x.on a q with q | q
    · exact n q
    · rw [e] at q; cases q
  refine ⟨fun a m => ?_, fun a m => ?_, y.ex, x.gg.trans y.gg, fun a o n e => y.keep a o (nin a o n e) (x.keep a o n e), fun a o n e ng => y.new a o (nin a o n e) (x.keep a o n e) (x.new a o n e ng)⟩
  · obtain ⟨o, e⟩ := x.al a m
    by_cases p : a ∈ O₁
    · exact y.al a p
    · exact ⟨o, y.keep a o p e⟩
  · rcases y.on a m with q | q
    · exact x.on a q
    · by_cases p : a ∈ O
      · exact .inl p
      · cases r : h.get? a with
        | none => exact .inr rfl
        | some o => rw [x.keep a o p r] at q; cases q

section
variable (prog : Program) (w : World)
noncomputable def FlowRep (O : List Addr) (G : GMap) (h : Heap) : Flow → Fl → Prop
  | .next, .next => True
  | .brk, .brk => True
  | .cont, .cont => True
  | .ret v, .ret d => ∃ Gr : GMap, GLe G Gr ∧ (∀ a o, Gr a = some o → h.get? a = some o) ∧ (∀ a o, Gr a = some o → G a = some o ∨ a ∈ O) ∧ Rep prog w Gr v d
  | _, _ => False

variable {K : Frag} (B : Base K) (cx : Cx)
noncomputable def SPost (O : List Addr) (G : GMap) (s : Shared) (Φ : Fl → List (Str × D) → Prop) (Q : Flow → Shared → Prop) : Prop :=
  ∀ f fl ρ' h' tk' O' G', Step O G s.heap O' G' h' → St prog w B cx O' G' h' ρ' → FlowRep prog w O' G' h' f fl → s.toks ≤ tk' → Φ fl ρ' → Q f { s with heap := h', toks := tk' }

noncomputable def WS (st : Stmt) (Φ : Fl → List (Str × D) → Prop) (ρ : List (Str × D)) : Prop :=
  ∀ O G (s : Shared) (Q : Flow → Shared → Prop) (E : Value → Shared → Prop), St prog w B cx O G s.heap ρ → 0 < s.toks → SPost prog w B cx O G s Φ Q → wpAny (model prog w) cx.A (exec st cx.env) Q E s
noncomputable def WSs (sts : List Stmt) (Φ : Fl → List (Str × D) → Prop) (ρ : List (Str × D)) : Prop :=
  ∀ O G (s : Shared) (Q : Flow → Shared → Prop) (E : Value → Shared → Prop), St prog w B cx O G s.heap ρ → 0 < s.toks → SPost prog w B cx O G s Φ Q → wpAny (model prog w) cx.A (execs sts cx.env) Q E s
end

section
variable {prog : Program} {w : World} {K : Frag} {B : Base K} {cx : Cx} {O O' : List Addr} {G G' : GMap} {h h' : Heap} {ρ : List (Str × D)} {Φ : Fl → List (Str × D) → Prop}

theorem Step.grow (S : St prog w B cx O G h ρ) (k : Grow G h G' h') : Step O G h O G' h' :=
  ⟨fun a m => by obtain ⟨_, o, e⟩ := S.own a m; exact ⟨o, k.hh a o e⟩, fun _ m => .inl m, fun a m => by obtain ⟨_, o, e⟩ := S.own a m; exact ⟨o, k.hh a o e⟩, k.gg, fun a o _ e => k.hh a o e, fun a o _ => k.new a o⟩
theorem Step.refl (S : St prog w B cx O G h ρ) : Step O G h O G h := Step.grow S (Grow.refl S.keep)
theorem Step.same (S : St prog w B cx O G h ρ) {a : Addr} (ha : a ∈ O) (hs : Heap.SameBut a h h') (hx : ∃ o, h'.get? a = some o) : Step O G h O G h' :=
  have ex : ∀ b ∈ O, ∃ o, h'.get? b = some o := fun b m => by
    by_cases q : b = a
    · subst q; exact hx
    · obtain ⟨_, o, e⟩ := S.own b m; exact ⟨o, (hs.2 b q).trans e⟩
  ⟨ex, fun _ m => .inl m, ex, GLe.refl _, fun b o n e => (hs.2 b fun q => n (q ▸ ha)).trans e, fun _ _ _ _ n => n⟩

theorem SPost.after {s : Shared} {Q : Flow → Shared → Prop} {Φ' : Fl → List (Str × D) → Prop} (R : SPost prog w B cx O G s Φ Q) {h₁ : Heap} {tk₁ : Nat} {O₁ : List Addr} {G₁ : GMap} (k : Step O G s.heap O₁ G₁ h₁) (t : s.toks ≤ tk₁)
    (z : ∀ fl ρ', Φ' fl ρ' → Φ fl ρ') : SPost prog w B cx O₁ G₁ { s with heap := h₁, toks := tk₁ } Φ' Q :=
  fun f fl ρ' h' tk' O' G' k' S' p t' y => R f fl ρ' h' tk' O' G' (k.trans k') S' p (Nat.le_trans t t') (z _ _ y)

theorem WSs.nil (z : Φ .next ρ) : WSs prog w B cx [] Φ ρ := fun O G s Q E S tk R =>
  wpAny_execs_nil (R .next .next ρ s.heap s.toks O G (Step.refl S) S trivial (Nat.le_refl _) z)

/-- behind a statement: the rest where it goes on -/
noncomputable def Then (prog : Program) (w : World) {K : Frag} (B : Base K) (cx : Cx) (rest : List Stmt) (Φ : Fl → List (Str × D) → Prop) (fl : Fl) (ρ : List (Str × D)) : Prop :=
  match fl with
  | .next => WSs prog w B cx rest Φ ρ
  | fl => Φ fl ρ

theorem WSs.cons {st : Stmt} {rest : List Stmt} (x : WS prog w B cx st (Then prog w B cx rest Φ) ρ) : WSs prog w B cx (st :: rest) Φ ρ := fun O G s Q E S tk R => by
  refine wpAny_execs_cons (x O G s _ E S tk fun f fl ρ₁ h₁ tk₁ O₁ G₁ k₁ S₁ p₁ t₁ z₁ => ?_)
  cases f <;> cases fl <;> first | exact p₁.elim | skip
  · exact z₁ O₁ G₁ { s with heap := h₁, toks := tk₁ } _ E S₁ (Nat.lt_of_lt_of_le tk t₁) (R.after k₁ t₁ fun _ _ z => z)
  · exact R _ _ ρ₁ h₁ tk₁ O₁ G₁ k₁ S₁ p₁ t₁ z₁
  · exact R _ _ ρ₁ h₁ tk₁ O₁ G₁ k₁ S₁ p₁ t₁ z₁
  · exact R _ _ ρ₁ h₁ tk₁ O₁ G₁ k₁ S₁ p₁ t₁ z₁

theorem storePlain {env : PySem.Env} (hk : env.scope.kind = .function) : (env.scope.kind == .class || (env.scope.kind == .module && env.locals != env.globals)) = false := by rw [hk]; rfl

/-- a plain name is stored -/
theorem storeName_plain {x : Str} {v : Value} {d : D} {s : Shared} {Q : Unit → Shared → Prop} {E : Value → Shared → Prop} (S : St prog w B cx O G s.heap ρ) (r : Rep prog w G v d) (hk : cx.env.kindOf x = some .local ∨ (cx.own = true ∧ cx.env.kindOf x = some .cell ∧ (cx.env.cells.lookup x).isSome = true)) (hm : cx.mu.contains x = false)
    (R : ∀ h' tk', Step O G s.heap O G h' → St prog w B cx O G h' ((x, d) :: ρ) → s.toks ≤ tk' → Q () { s with heap := h', toks := tk' }) : wpAny (model prog w) cx.A (storeName cx.env x v) Q E s := by
  obtain ⟨m, μ, hns, hnd, hin, hv⟩ := S.fr
  rcases hk with hk | ⟨ho, hk, hc⟩
  · refine wpAny_storeName_local hk hns (fun h' hn' hs => ?_) (storePlain cx.kind)
    have exL : ∃ o, h'.get? cx.env.locals = some o := by obtain ⟨o, _, _, e, _⟩ := hn'; exact ⟨o, e⟩
    have S' : St prog w B cx O G h' ((x, d) :: ρ) := by
      obtain ⟨o, es, ep, z1, z2, z3, z4⟩ := hns
      refine S.store hk hm r (fun m₀ hn₀ => ?_) hs
      obtain ⟨o', es', ep', y1, y2, y3, y4⟩ := hn₀
      rw [z1] at y1; cases y1; rw [z2] at y2; cases y2
      have : m₀ = m := funext fun n => (y4 n).symm.trans (z4 n)
      subst this
      exact ⟨_, hn', fun y => rfl⟩
    exact R h' _ (Step.same S (hin _ (List.mem_cons_self ..)) hs exL) S' (Nat.le_succ _)
  · obtain ⟨c, hc⟩ := Option.isSome_iff_exists.mp hc
    obtain ⟨hcn, hcs⟩ := S.cells ho
    obtain ⟨hcO, v₀, hc0⟩ := hcs _ (mem_of_lookup hc)
    refine wpAny_storeName_cell cx.kind hk hc hc0 fun h' hi hs => ?_
    exact R h' s.toks (Step.same S hcO hs (by obtain ⟨o, e, _⟩ := hi; exact ⟨o, e⟩)) (S.storeCell ho hk hm hc r hi hs) (Nat.le_refl _)

noncomputable def CanStore (cx : Cx) (x : Str) : Prop := (cx.env.kindOf x = some .local ∨ (cx.own = true ∧ cx.env.kindOf x = some .cell ∧ (cx.env.cells.lookup x).isSome = true)) ∧ cx.mu.contains x = false

theorem WS.assign {x : Str} {p p' : Pos} {value : Expr} (y : WE prog w B cx value (fun d => Φ .next ((x, d) :: ρ)) ρ) (hk : CanStore cx x)
    (hs : swapsWith value (some (.Name x p)) p'.line cx.env = pure false := by rfl) : WS prog w B cx (.Assign [.Name x p] value p') Φ ρ := fun O G s Q E S tk R => by
  refine wpAny_Assign_Name (y O G s _ E S tk fun v d h₁ tk₁ G₁ k₁ p₁ t₁ z₁ => ?_) hs
  have S₁ := S.grow k₁
  refine storeName_plain (s := { s with heap := h₁, toks := tk₁ }) S₁ p₁ hk.1 hk.2 fun h₂ tk₂ k₂ S₂ t₂ => ?_
  exact R .next .next _ h₂ tk₂ O G₁ ((Step.grow S k₁).trans k₂) S₂ trivial (Nat.le_trans t₁ t₂) z₁

/-- a new object that nothing else holds -/
noncomputable def WN (prog : Program) (w : World) {K : Frag} (B : Base K) (cx : Cx) (e : Expr) (Ψ : D → Prop) (ρ : List (Str × D)) : Prop :=
  ∀ O G (s : Shared) (Q : Value → Shared → Prop) (E : Value → Shared → Prop), St prog w B cx O G s.heap ρ → 0 < s.toks →
    (∀ v a d h' tk' G', Grow G s.heap G' h' → Mut prog w G' h' v a d → G' a = none → s.heap.get? a = none → s.toks ≤ tk' → Ψ d → Q v { s with heap := h', toks := tk' }) → wpAny (model prog w) cx.A (eval e cx.env) Q E s

theorem WS.assignNew {x : Str} {p p' : Pos} {value : Expr} (y : WN prog w B cx value (fun d => Φ .next ((x, d) :: ρ)) ρ) (hk : cx.env.kindOf x = some .local) (hm : cx.mu.contains x = true) (hpin : ∀ p, cx.pin = some p → p.1 ≠ x)
    (hs : swapsWith value (some (.Name x p)) p'.line cx.env = pure false := by rfl) : WS prog w B cx (.Assign [.Name x p] value p') Φ ρ := fun O G s Q E S tk R => by
  refine wpAny_Assign_Name (y O G s _ E S tk fun v a d h₁ tk₁ G₁ k₁ M₁ n₁ e₁ t₁ z₁ => ?_) hs
  have S₁ := S.grow k₁
  obtain ⟨m, μ, hns, hnd, hin, hv⟩ := S₁.fr
  have haO : a ∉ O := fun q => by obtain ⟨_, o, e⟩ := S.own a q; rw [e₁] at e; cases e
  refine wpAny_storeName_local (s := { s with heap := h₁, toks := tk₁ }) hk hns (fun h' hn' hsb => ?_) (storePlain cx.kind)
  have S₂ : St prog w B cx (a :: O) G₁ h' ((x, d) :: ρ) := by
    obtain ⟨o, es, ep, z1, z2, z3, z4⟩ := hns
    refine S₁.storeNew hk hm hpin haO n₁ M₁ (fun m₀ hn₀ => ?_) hsb
    obtain ⟨o', es', ep', y1, y2, y3, y4⟩ := hn₀
    rw [z1] at y1; cases y1; rw [z2] at y2; cases y2
    have : m₀ = m := funext fun n => (y4 n).symm.trans (z4 n)
    subst this
    exact ⟨_, hn', fun y => rfl⟩
  have hLO := hin _ (List.mem_cons_self ..)
  refine R .next .next _ h' _ (a :: O) G₁ ⟨fun b m => (S₂.own b (List.mem_cons_of_mem _ m)).2, fun b m => ?_, fun b m => (S₂.own b m).2, k₁.gg, fun b o n e => ?_, fun b o _ => k₁.new b o⟩ S₂ trivial (Nat.le_succ_of_le t₁) z₁
  · rcases List.mem_cons.mp m with rfl | m
    · exact .inr e₁
    · exact .inl m
  · exact (hsb.2 b fun q => n (q ▸ hLO)).trans (k₁.hh b o e)

theorem WN.list {es : List Expr} {p : Pos} {Ψ : D → Prop} (x : WL prog w B cx es (fun ds => ds.length ≤ 1000 ∧ Ψ (.lst ds)) ρ) : WN prog w B cx (.List es p) Ψ ρ := fun O G s Q E S tk R => by
  refine List_ (x p O G s _ E S tk fun vs ds h₁ t₁ G₁ k₁ p₁ u₁ z₁ => ?_)
  have hz : vs.length ≤ sizeLine := by rw [p₁.length, sizeLine_eq]; omega
  refine wpAny_newObj_type (show Q (.ref h₁.objs.size) { s with heap := h₁.push (lstO vs 0), toks := t₁ } from ?_) (by show vs.toArray.size ≤ sizeLine; rw [List.size_toArray]; exact hz)
  have g := Grow.heap k₁.gh (h' := h₁.push (lstO vs 0)) fun a o e => Heap.get?_push_of_some _ e
  have hn : s.heap.get? h₁.objs.size = none := by
    cases q : s.heap.get? h₁.objs.size with
    | none => rfl
    | some o => exact absurd (Heap.lt_size (k₁.hh _ _ q)) (Nat.lt_irrefl _)
  exact R _ _ _ _ _ G₁ (k₁.trans g) (.lst (Heap.get?_push_size _ rfl) p₁) (gnone k₁.gh (get_size h₁)) hn u₁ z₁.2

theorem WN.dict {p : Pos} {Ψ : D → Prop} (z : Ψ (.dic [])) : WN prog w B cx (.Dict [] [] p) Ψ ρ := fun O G s Q E S tk R => by
  refine wpAny_Dict_empty ?_
  have g := Grow.heap S.keep (h' := s.heap.push { cls := .type "dict", data := .dict #[] }) fun a o e => Heap.get?_push_of_some _ e
  have hd := Heap.MapOf.new (knd := strKind prog w) s.heap
  have hsys : (s.heap.objs.size == sysModules) = false := by
    have := (B.nolim.keeps fun b o e => S.keep b o (S.base b o e))
    obtain ⟨mc, hn, _⟩ := this
    have := hn.lt
    have h2 : sysModules ≠ s.heap.objs.size := by
      intro q
      have : cStatics < s.heap.objs.size := hn.lt
      rw [← q] at this
      exact absurd this (by decide)
    simpa using fun q => h2 q.symm
  refine R _ _ _ _ s.toks G g (.dic hsys (Heap.get?_push_size _ rfl) ?_ .nil) (gnone S.keep (get_size _)) (get_size _) (Nat.le_refl _) z
  refine ⟨#[], 0, ⟨rfl, rfl, rfl⟩, rfl, fun e he => by simp at he, ?_, List.nodup_nil⟩
  exact .nil

theorem WN.lAdd {l r : Expr} {p : Pos} {Ψ : D → Prop} (x : WV prog w B cx l (fun a => WV prog w B cx r (fun b => ∃ xs ys, a = .lst xs ∧ b = .lst ys ∧ xs.length + ys.length ≤ sizeLine ∧ Ψ (.lst (xs ++ ys))) ρ) ρ) :
    WN prog w B cx (.BinOp l .Add r p) Ψ ρ := fun O G s Q E S tk R => by
  refine wpAny_BinOp (x O G s _ E S tk fun v a h₁ t₁ G₁ k₁ p₁ u₁ z₁ => ?_)
  refine z₁ O G₁ _ _ E (S.grow k₁) (Nat.lt_of_lt_of_le tk u₁) fun u b h₂ t₂ G₂ k₂ p₂ u₂ z₂ => ?_
  obtain ⟨xs, ys, rfl, rfl, hz, z⟩ := z₂
  obtain ⟨a, vs, n, rfl, e, l⟩ := (p₁.grow k₂).lstAt k₂.gh
  obtain ⟨b, us, n', rfl, e', l'⟩ := p₂.lstAt k₂.gh
  refine P.add_list (lstO_IsL e) (lstO_IsL e') ?_ (by rw [List.size_toArray, List.size_toArray, l.length, l'.length]; exact hz)
  have g := Grow.heap k₂.gh (h' := h₂.push { cls := .type "list", data := .seq (vs.toArray ++ us.toArray) }) fun a o e => Heap.get?_push_of_some _ e
  have kk := k₁.trans k₂
  have hn : s.heap.get? h₂.objs.size = none := by
    cases q : s.heap.get? h₂.objs.size with
    | none => rfl
    | some o => exact absurd (Heap.lt_size (kk.hh _ _ q)) (Nat.lt_irrefl _)
  refine R _ _ _ _ _ G₂ (kk.trans g) (.lst (vs := vs ++ us) (n := 0) ?_ (l.append l')) (gnone k₂.gh (get_size h₂)) hn (Nat.le_trans u₁ u₂) z
  rw [Heap.get?_push_size _ rfl, List.append_toArray]

theorem WS.ret {e : Expr} {p : Pos} (x : WE prog w B cx e (fun d => Φ (.ret d) ρ) ρ) : WS prog w B cx (.Return (some e) p) Φ ρ := fun O G s Q E S tk R => by
  refine wpAny_Return_some (x O G s _ E S tk fun v d h₁ t₁ G₁ k₁ p₁ u₁ z₁ => ?_)
  exact R _ (.ret d) ρ h₁ t₁ O G₁ (Step.grow S k₁) (S.grow k₁) ⟨G₁, GLe.refl _, k₁.gh, fun _ _ e => .inl e, p₁⟩ u₁ z₁

/-- a mutable name is handed back: its object is frozen now -/
theorem WS.retMut {x : Str} {p p' : Pos} {d : D} (hl : ρ.lookup x = some d) (z : Φ (.ret d) ρ) (hm : cx.mu.contains x = true := by rfl) (hd : (x == ("__debug__" : Str)) = false := by rfl) : WS prog w B cx (.Return (some (.Name x p)) p') Φ ρ := fun O G s Q E S tk R => by
  refine wpAny_Return_some (wpAny_Name ?_ hd)
  obtain ⟨m, v, a, hk, hns, hv, M, ha, _⟩ := S.turn hl hm
  refine wpAny_loadName_local cx.kind hk hns hv ?_
  have hG := (S.own a ha).1
  refine R _ (.ret d) ρ s.heap s.toks O G (Step.refl S) S ?_ (Nat.le_refl _) z
  have fin : ∀ o, s.heap.get? a = some o → (∀ b o', (G.put a o) b = some o' → s.heap.get? b = some o') ∧ ∀ b o', (G.put a o) b = some o' → G b = some o' ∨ b ∈ O := fun o e => by
    refine ⟨fun b o' q => ?_, fun b o' q => ?_⟩ <;> by_cases r : b = a
    · subst r; rw [GMap.put_self] at q; cases q; exact e
    · rw [GMap.put_ne r] at q; exact S.keep _ _ q
    · subst r; exact .inr ha
    · rw [GMap.put_ne r] at q; exact .inl q
  cases M with
  | lst e l => exact ⟨_, GMap.put_le hG, (fin _ e).1, (fin _ e).2, .lst (GMap.put_self ..) (l.mono (GMap.put_le hG))⟩
  | dic y e i l => exact ⟨_, GMap.put_le hG, (fin _ e).1, (fin _ e).2, .dic y (GMap.put_self ..) i (l.mono (GMap.put_le hG))⟩
  | obj e0 e l => exact ⟨_, GMap.put_le hG, (fin _ e).1, (fin _ e).2, .obj (GMap.put_le hG _ _ e0) (GMap.put_self ..) (l.mono (GMap.put_le hG))⟩

theorem WS.brk {p : Pos} (z : Φ .brk ρ) : WS prog w B cx (.Break p) Φ ρ := fun O G s Q E S tk R =>
  wpAny_Break (R _ .brk ρ s.heap s.toks O G (Step.refl S) S trivial (Nat.le_refl _) z)

theorem WS.if {t : Expr} {b c : List Stmt} {p : Pos} (x : WB prog w B cx t (fun q => if q = true then WSs prog w B cx b Φ ρ else WSs prog w B cx c Φ ρ) ρ) : WS prog w B cx (.If t b c p) Φ ρ := fun O G s Q E S tk R => by
  refine wpAny_If (x O G s _ E S tk fun q h₁ t₁ G₁ k₁ u₁ z₁ => ?_)
  cases q with
  | true => exact z₁ O G₁ _ _ E (S.grow k₁) (Nat.lt_of_lt_of_le tk u₁) (R.after (Step.grow S k₁) u₁ fun _ _ z => z)
  | false => exact z₁ O G₁ _ _ E (S.grow k₁) (Nat.lt_of_lt_of_le tk u₁) (R.after (Step.grow S k₁) u₁ fun _ _ z => z)

theorem WS.try {b : List Stmt} {h₀ : ExceptHandler} {hs : List ExceptHandler} {p : Pos} (x : WSs prog w B cx b Φ ρ) : WS prog w B cx (.Try b (h₀ :: hs) [] [] p) Φ ρ := fun O G s Q E S tk R => by
  refine wpAny_Try_except (x O G s _ _ S tk fun f fl ρ' h' tk' O' G' k S' q t z => ?_)
  have := R f fl ρ' h' tk' O' G' k S' q t z
  cases f <;> first | exact wpAny_execs_nil this | exact this

/-- what a turn's flow leads to -/
noncomputable def Turn (Φ : Fl → List (Str × D) → Prop) (again : List (Str × D) → Prop) : Fl → List (Str × D) → Prop
  | .next, ρ => again ρ
  | .cont, ρ => again ρ
  | .brk, ρ => Φ .next ρ
  | .ret d, ρ => Φ (.ret d) ρ

theorem WS.while {t : Expr} {b : List Stmt} {p : Pos} (Inv : Nat → List (Str × D) → Prop)
    (step : ∀ n ρ, Inv n ρ → WB prog w B cx t (fun q => if q = true then WSs prog w B cx b (Turn Φ fun ρ' => ∃ m, m < n ∧ Inv m ρ') ρ else Φ .next ρ) ρ) (n : Nat) (h0 : Inv n ρ) : WS prog w B cx (.While t b [] p) Φ ρ := fun O G s Q E S tk R => by
  refine wpAny_While ?_
  refine codeAny_whileLoop (fun n s' => ∃ O' G' h' tk' ρ', s' = { s with heap := h', toks := tk' } ∧ Step O G s.heap O' G' h' ∧ St prog w B cx O' G' h' ρ' ∧ s.toks ≤ tk' ∧ Inv n ρ') ?_ n ⟨O, G, s.heap, s.toks, ρ, rfl, Step.refl S, S, Nat.le_refl _, h0⟩
  rintro n s' ⟨O₁, G₁, h₁, tk₁, ρ₁, rfl, k₁, S₁, t₁, i₁⟩
  refine step n ρ₁ i₁ O₁ G₁ _ _ _ S₁ (Nat.lt_of_lt_of_le tk t₁) fun q h₂ tk₂ G₂ k₂ t₂ z₂ => ?_
  have kk := k₁.trans (Step.grow S₁ k₂)
  have S₂ := S₁.grow k₂
  cases q with
  | false => exact wpAny_execs_nil (R _ .next ρ₁ h₂ tk₂ O₁ G₂ kk S₂ trivial (Nat.le_trans t₁ t₂) z₂)
  | true =>
    refine z₂ O₁ G₂ _ _ _ S₂ (Nat.lt_of_lt_of_le tk (Nat.le_trans t₁ t₂)) fun f fl ρ₃ h₃ tk₃ O₃ G₃ k₃ S₃ p₃ t₃ z₃ => ?_
    have tt := Nat.le_trans (Nat.le_trans t₁ t₂) t₃
    cases f <;> cases fl <;> first | exact p₃.elim | skip
    · obtain ⟨m, hm, i⟩ := z₃; exact ⟨m, hm, O₃, G₃, h₃, tk₃, ρ₃, rfl, kk.trans k₃, S₃, tt, i⟩
    · exact R _ .next ρ₃ h₃ tk₃ O₃ G₃ (kk.trans k₃) S₃ trivial tt z₃
    · obtain ⟨m, hm, i⟩ := z₃; exact ⟨m, hm, O₃, G₃, h₃, tk₃, ρ₃, rfl, kk.trans k₃, S₃, tt, i⟩
    · exact R _ (.ret _) ρ₃ h₃ tk₃ O₃ G₃ (kk.trans k₃) S₃ p₃ tt z₃
end
end

open PySem.Builtin.Str (occurrences)
section

/-- an iterator object at I that yields ds, item by item -/
structure Its (prog : Program) (w : World) (A : Around) (I : Addr) (target : Expr) (ds : List D) (Sg : Nat → GMap → Heap → Prop) : Prop where
  frame : ∀ i G G' h h', Sg i G h → GLe G G' → (∀ o, h.get? I = some o → h'.get? I = some o) → Sg i G' h'
  ex : ∀ i G h, Sg i G h → ∃ o vs, h.get? I = some o ∧ o.data = .fields vs
  item : ∀ i G (s : Shared) (Q : Value → Shared → Prop) (X : Shared → Prop) (E E' : Value → Shared → Prop) d, ds[i]? = some d → (∀ a o, G a = some o → s.heap.get? a = some o) → G I = Option.none → Sg i G s.heap →
    (∀ v h' tk' G', GLe G G' → (∀ a o, G' a = some o → h'.get? a = some o) → (∀ b o, b ≠ I → s.heap.get? b = some o → h'.get? b = some o) → (∀ b o, s.heap.get? b = some o → G b = Option.none → G' b = Option.none) →
      s.toks ≤ tk' → Rep prog w G' v d → Sg (i + 1) G' h' → Q v { s with heap := h', toks := tk' }) →
    wpAny (model prog w) A (pyNext (.ref I)) (fun r s₁ => match r with | Option.none => X s₁ | some v => wpAny (model prog w) A (letOwnedTupleGo target (.ref I) v) (fun _ s₂ => Q v s₂) E' s₁) E s
  done : ∀ G (s : Shared) (Q : Option Value → Shared → Prop) (E : Value → Shared → Prop), (∀ a o, G a = some o → s.heap.get? a = some o) → Sg ds.length G s.heap →
    (∀ h' tk', (∀ b o, b ≠ I → s.heap.get? b = some o → h'.get? b = some o) → s.toks ≤ tk' → Q Option.none { s with heap := h', toks := tk' }) → wpAny (model prog w) A (pyNext (.ref I)) Q E s
  self : ∀ i G (s : Shared) (Q : Value → Shared → Prop) (E : Value → Shared → Prop), Sg i G s.heap → Q (.ref I) s → wpAny (model prog w) A (pyIter (.ref I)) Q E s

theorem noGo {x : Str} {p : Pos} (I v : Value) : letOwnedTupleGo (.Name x p) I v = pure () := rfl

section
variable {prog : Program} {w : World} {A : Around}

theorem Its.walks {I : Addr} {n : Nat} {P : Nat → Value → Prop} {St : Nat → Heap → Prop} {ds : List D} {x : Str} {p : Pos} (W : Walks prog w A I [I] [I] n P St) (hn : n = ds.length) (hex : ∀ i h, St i h → ∃ o vs, h.get? I = some o ∧ o.data = .fields vs)
    (hP : ∀ i v d, P i v → ds[i]? = some d → ∀ G, Rep prog w G v d) : Its prog w A I (.Name x p) ds (fun i _ h => St i h) := by
  refine ⟨fun i G G' h h' st _ k => W.frame i h h' st fun b hb => ?_, fun i G h st => hex i h st, fun i G s Q X E E' d hd hg hI st R => ?_, fun G s Q E hg st R => ?_, fun i G s Q E st q => W.self i s Q E st q⟩
  · rw [List.mem_singleton.mp hb]; exact k
  · have hlt : i < n := by rw [hn]; exact (List.getElem?_eq_some_iff.mp hd).1
    refine wpAny_with_toks (Nat.le_refl s.toks) (W.item i s _ _ hlt st fun v h' tk pv st' hk ht => ?_)
    show wpAny _ _ (letOwnedTupleGo _ _ _) _ _ _
    rw [noGo]
    have hk' : ∀ b o, b ≠ I → s.heap.get? b = some o → h'.get? b = some o := fun b o nb e => hk b o (fun q => nb (List.mem_singleton.mp q)) e
    exact wpAny_pure (R v h' tk G (GLe.refl _) (fun a o e => hk' a o (fun q => by subst q; rw [hI] at e; cases e) (hg a o e)) hk' (fun _ _ _ e => e) ht (hP i v d pv hd G) st')
  · refine wpAny_with_toks (Nat.le_refl s.toks) (W.done s _ _ (hn ▸ st) fun h' tk hk ht => ?_)
    exact R h' tk (fun b o nb e => hk b o (fun q => nb (List.mem_singleton.mp q)) e) ht

theorem Its.list {I a : Addr} {vs : List Value} {n : Nat} {ds : List D} {x : Str} {p : Pos} (hh : A.handled = none) :
    Its prog w A I (.Name x p) ds (fun i G h => h.IsListIter I a i ∧ G a = some (lstO vs n) ∧ RepL prog w G vs ds) := by
  refine ⟨fun i G G' h h' st k kI => ⟨st.1.at kI, k _ _ st.2.1, st.2.2.mono k⟩, fun i G h st => ?_, fun i G s Q X E E' d hd hg hI st R => ?_, fun G s Q E hg st R => ?_, fun i G s Q E st q => wpAny_pyIter_listiter st.1 q⟩
  · obtain ⟨⟨o, e, _, hd⟩, _⟩ := st; exact ⟨o, _, e, hd⟩
  · obtain ⟨hit, ha, l⟩ := st
    obtain ⟨v, hv, r⟩ := l.get i d hd
    refine wpAny_pyNext_list_item hit (lstO_isList (hg _ _ ha)) (by simpa using hv) fun h' hit' hs => ?_
    show wpAny _ _ (letOwnedTupleGo _ _ _) _ _ _
    rw [noGo]
    have hk' : ∀ b o, b ≠ I → s.heap.get? b = some o → h'.get? b = some o := fun b o nb e => (hs.2 b nb).trans e
    exact wpAny_pure (R v h' s.toks G (GLe.refl _) (fun a o e => hk' a o (fun q => by subst q; rw [hI] at e; cases e) (hg a o e)) hk' (fun _ _ _ e => e) (Nat.le_refl _) r ⟨hit', ha, l⟩)
  · obtain ⟨hit, ha, l⟩ := st
    refine wpAny_pyNext_list_end hh hit (lstO_isList (hg _ _ ha)) ?_ fun h' he => R h' s.toks (fun b o nb e => he b o nb e) (Nat.le_refl _)
    rw [← l.length]; simp

theorem go_tuple {elts : List Expr} {k : Nat} {p : Pos} {I t : Addr} {i : Nat} {v : Value} {s : Shared} {Q : Unit → Shared → Prop} {E : Value → Shared → Prop} {M : Model} (hit : s.heap.IsTupleIter I t i) (h : Q () s) :
    wpAny M A (letOwnedTupleGo (.Tuple elts k p) (.ref I) v) Q E s := by
  obtain ⟨o, ho, hc, hd⟩ := hit
  cases v with
  | ref a =>
    show wpAny M A (do
      let o ← load I
      match o.cls, o.data with
      | .type n, .fields vs =>
        if ["enumerate", "zip", "dict_itemiterator", "dict_reverseitemiterator", "odict_iterator", "itertools.zip_longest", "itertools.pairwise"].contains n && vs[0]? == some (rawInt a) then
          rule "for.unpacks-the-owned-tuple"
          updateField I 0 .none
      | _, _ => pure ()) Q E s
    refine wpAny_bind (wpAny_load ho ?_)
    rw [hc, hd]
    exact wpAny_pure h
  | _ => exact wpAny_pure h

theorem Its.tup {I a : Addr} {vs : List Value} {n : Nat} {ds : List D} {target : Expr} (hh : A.handled = none) (ht : (∃ x p, target = .Name x p) ∨ ∃ elts k p, target = .Tuple elts k p) :
    Its prog w A I target ds (fun i G h => h.IsTupleIter I a i ∧ G a = some (tupO vs n) ∧ RepL prog w G vs ds) := by
  have tu : ∀ {G : GMap} {h : Heap}, (∀ a o, G a = some o → h.get? a = some o) → G a = some (tupO vs n) → h.IsTuple a vs.toArray := fun hg e => ⟨_, hg _ _ e, rfl, n, rfl⟩
  refine ⟨fun i G G' h h' st k kI => ⟨st.1.at kI, k _ _ st.2.1, st.2.2.mono k⟩, fun i G h st => ?_, fun i G s Q X E E' d hd hg hI st R => ?_, fun G s Q E hg st R => ?_, fun i G s Q E st q => wpAny_pyIter_tupleiter st.1 q⟩
  · obtain ⟨⟨o, e, _, hd⟩, _⟩ := st; exact ⟨o, _, e, hd⟩
  · obtain ⟨hit, ha, l⟩ := st
    obtain ⟨v, hv, r⟩ := l.get i d hd
    refine wpAny_pyNext_tuple_item hit (tu hg ha) (by simpa using hv) fun h' hit' hs => ?_
    show wpAny _ _ (letOwnedTupleGo _ _ _) _ _ _
    have hk' : ∀ b o, b ≠ I → s.heap.get? b = some o → h'.get? b = some o := fun b o nb e => (hs.2 b nb).trans e
    have fin := R v h' s.toks G (GLe.refl _) (fun a o e => hk' a o (fun q => by subst q; rw [hI] at e; cases e) (hg a o e)) hk' (fun _ _ _ e => e) (Nat.le_refl _) r ⟨hit', ha, l⟩
    rcases ht with ⟨x, p, rfl⟩ | ⟨elts, k, p, rfl⟩
    · rw [noGo]; exact wpAny_pure fin
    · exact go_tuple (s := { s with heap := h' }) hit' fin
  · obtain ⟨hit, ha, l⟩ := st
    refine wpAny_pyNext_tuple_end hh hit (tu hg ha) ?_ fun h' he => R h' s.toks (fun b o nb e => he b o nb e) (Nat.le_refl _)
    rw [← l.length]; simp
end

section
variable {prog : Program} {w : World} {K : Frag} {B : Base K} {cx : Cx} {O O' : List Addr} {G G' : GMap} {h h' : Heap} {ρ : List (Str × D)} {Φ : Fl → List (Str × D) → Prop}

noncomputable def WI (prog : Program) (w : World) {K : Frag} (B : Base K) (cx : Cx) (e target : Expr) (Ψ : List D → Prop) (ρ : List (Str × D)) : Prop :=
  ∀ O G (s : Shared) (Q : Value → Shared → Prop) (E : Value → Shared → Prop), St prog w B cx O G s.heap ρ → 0 < s.toks →
    (∀ I ds Sg h' tk' G', Grow G s.heap G' h' → s.heap.get? I = none → G' I = none → Its prog w cx.A I target ds Sg → Sg 0 G' h' → s.toks ≤ tk' → Ψ ds → Q (.ref I) { s with heap := h', toks := tk' }) →
    wpAny (model prog w) cx.A (eval e cx.env) (fun x s₁ => wpAny (model prog w) cx.A (pyIter x) Q E s₁) E s

/-- the iterator of a value at hand -/
noncomputable def JI (prog : Program) (w : World) {K : Frag} (B : Base K) (cx : Cx) (target : Expr) (a : D) (Ψ : List D → Prop) : Prop :=
  ∀ G (s : Shared) (Q : Value → Shared → Prop) (E : Value → Shared → Prop) u, Ok B G s → Rep prog w G u a →
    (∀ I ds Sg h' tk' G', Grow G s.heap G' h' → s.heap.get? I = none → G' I = none → Its prog w cx.A I target ds Sg → Sg 0 G' h' → s.toks ≤ tk' → Ψ ds → Q (.ref I) { s with heap := h', toks := tk' }) →
    wpAny (model prog w) cx.A (pyIter u) Q E s

theorem new_trans {h h₁ : Heap} {a : Addr} (k : ∀ a o, h.get? a = some o → h₁.get? a = some o) (e : h₁.get? a = none) : h.get? a = none := by
  cases q : h.get? a with
  | none => rfl
  | some o => rw [k _ _ q] at e; cases e

theorem WI.of {e target : Expr} {Ψ : List D → Prop} (x : WE prog w B cx e (fun a => JI prog w B cx target a Ψ) ρ) : WI prog w B cx e target Ψ ρ := fun O G s Q E S tk R => by
  refine x O G s _ E S tk fun v d h₁ tk₁ G₁ k₁ p₁ t₁ z₁ => ?_
  refine z₁ G₁ _ Q E v ((S.ok tk).grow k₁ t₁) p₁ fun I ds Sg h₂ tk₂ G₂ k₂ e₂ n₂ I₂ s₂ t₂ z₂ => ?_
  exact R I ds Sg h₂ tk₂ G₂ (k₁.trans k₂) (new_trans k₁.hh e₂) n₂ I₂ s₂ (Nat.le_trans t₁ t₂) z₂

theorem JI.list {ds : List D} {x : Str} {p : Pos} {Ψ : List D → Prop} (z : Ψ ds) : JI prog w B cx (.Name x p) (.lst ds) Ψ := fun G s Q E u o r R => by
  cases r with
  | lst e l =>
    rename_i a vs n
    refine wpAny_pyIter_list (lstO_isList (o.keep _ _ e)) ?_
    have g := Grow.heap o.keep (h' := s.heap.push { cls := .type "list_iterator", data := .fields #[.ref a, .int 0 0] }) fun a o e => Heap.get?_push_of_some _ e
    exact R _ ds _ _ s.toks G g (get_size _) (gnone o.keep (get_size _)) (Its.list (a := a) (vs := vs) (n := n) cx.handled) ⟨⟨_, Heap.get?_push_size _ rfl, rfl, rfl⟩, e, l⟩ (Nat.le_refl _) z
theorem JI.tup {ds : List D} {target : Expr} {Ψ : List D → Prop} (ht : (∃ x p, target = .Name x p) ∨ ∃ elts k p, target = .Tuple elts k p) (z : Ψ ds) : JI prog w B cx target (.tup ds) Ψ := fun G s Q E u o r R => by
  cases r with
  | tup e l =>
    rename_i a vs n
    refine wpAny_pyIter_tuple ⟨_, o.keep _ _ e, rfl, n, rfl⟩ ?_
    have g := Grow.heap o.keep (h' := s.heap.push { cls := .type "tuple_iterator", data := .fields #[.ref a, .int 0 0] }) fun a o e => Heap.get?_push_of_some _ e
    exact R _ ds _ _ s.toks G g (get_size _) (gnone o.keep (get_size _)) (Its.tup (a := a) (vs := vs) (n := n) cx.handled ht) ⟨⟨_, Heap.get?_push_size _ rfl, rfl, rfl⟩, e, l⟩ (Nat.le_refl _) z

/-- a target takes a value -/
noncomputable def WT (prog : Program) (w : World) {K : Frag} (B : Base K) (cx : Cx) (target : Expr) (d : D) (k : List (Str × D) → Prop) (ρ : List (Str × D)) : Prop :=
  ∀ O G (s : Shared) (Q : Unit → Shared → Prop) (E : Value → Shared → Prop) v, St prog w B cx O G s.heap ρ → Rep prog w G v d →
    (∀ h' tk' ρ', Step O G s.heap O G h' → St prog w B cx O G h' ρ' → s.toks ≤ tk' → k ρ' → Q () { s with heap := h', toks := tk' }) → wpAny (model prog w) cx.A (assign target cx.env v) Q E s

theorem WT.name {x : Str} {p : Pos} {d : D} {k : List (Str × D) → Prop} (hk : CanStore cx x) (z : k ((x, d) :: ρ)) : WT prog w B cx (.Name x p) d k ρ := fun O G s Q E v S r R =>
  wpAny_assign_Name (storeName_plain S r hk.1 hk.2 fun h' tk' k' S' t => R h' tk' _ k' S' t z)

/-- names in a row take values in a row -/
noncomputable def storeAll (names : List Str) (ds : List D) (ρ : List (Str × D)) : List (Str × D) := match names, ds with
  | n :: ns, d :: ds => storeAll ns ds ((n, d) :: ρ)
  | _, _ => ρ
theorem inOrder {names : List (Str × Pos)} : ∀ {ds : List D} {vs : List Value} {ρ : List (Str × D)} {s : Shared} {Q : Unit → Shared → Prop} {E : Value → Shared → Prop}, (∀ n ∈ names, CanStore cx n.1) → names.length = ds.length → St prog w B cx O G s.heap ρ → RepL prog w G vs ds →
    (∀ h' tk', Step O G s.heap O G h' → St prog w B cx O G h' (storeAll (names.map (·.1)) ds ρ) → s.toks ≤ tk' → Q () { s with heap := h', toks := tk' }) →
    wpAny (model prog w) cx.A (assignInOrder (names.map fun n => assign (.Name n.1 n.2) cx.env) vs) Q E s := by
  induction names with
  | nil => intro ds vs ρ s Q E hc hl S r R; cases ds with | nil => exact assignInOrder_nil (R s.heap s.toks (Step.refl S) S (Nat.le_refl _)) | cons => cases hl
  | cons n ns ih =>
    intro ds vs ρ s Q E hc hl S r R
    cases r with
    | nil => cases hl
    | cons r1 r =>
      refine assignInOrder_cons (wpAny_assign_Name (storeName_plain S r1 (hc n (List.mem_cons_self ..)).1 (hc n (List.mem_cons_self ..)).2 fun h' tk' k' S' t => ?_))
      refine ih (s := { s with heap := h', toks := tk' }) (fun m hm => hc m (List.mem_cons_of_mem _ hm)) (by simpa using hl) S' r fun h'' tk'' k'' S'' t' => ?_
      exact R h'' tk'' (k'.trans k'') S'' (Nat.le_trans t t')

theorem WT.tuple {names : List (Str × Pos)} {elts : List Expr} {kk : Nat} {p : Pos} {ds : List D} {k : List (Str × D) → Prop} (he : elts = names.map fun n => .Name n.1 n.2) (hc : ∀ n ∈ names, CanStore cx n.1) (hl : names.length = ds.length) (z : k (storeAll (names.map (·.1)) ds ρ)) :
    WT prog w B cx (.Tuple elts kk p) (.tup ds) k ρ := fun O G s Q E v S r R => by
  cases r with
  | tup e l =>
    rename_i a vs n
    have h1 : ∀ (ns : List (Str × Pos)) (env : PySem.Env), assignEach (ns.map fun n => Expr.Name n.1 n.2) env = ns.map fun n => (false, assign (.Name n.1 n.2) env) := by
      intro ns env
      induction ns with
      | nil => rfl
      | cons n ns ih => exact congrArg (List.cons _) ih
    have h2 : ∀ ns : List (Str × Pos), (ns.map fun n => (false, assign (.Name n.1 n.2) cx.env)).findIdx? (·.1) = none := by
      intro ns
      induction ns with
      | nil => rfl
      | cons n ns ih => rw [List.map_cons, List.findIdx?_cons, if_neg (by simp), ih]; rfl
    refine assign_Tuple_tuple cx.handled (tupO_isTup (S.keep _ _ e)) ?_ ?_ fun h₁ he₁ => ?_
    · rw [he, h1, List.length_map, List.size_toArray, l.length, hl]
    · rw [he, h1, h2]
    · have g := Grow.heap S.keep (h' := h₁) fun b o e => he₁ b o (Nat.ne_of_lt (Heap.lt_size e)) e
      have S₁ := S.grow g
      rw [he, h1, List.map_map]
      refine inOrder (s := { s with heap := h₁ }) hc hl S₁ l fun h' tk' k' S' t => ?_
      exact R h' tk' _ ((Step.grow S g).trans k') S' t z

theorem codeAny_forLoopT {A : Around} {s : Shared} {env : PySem.Env} {R : Result → Shared → Prop} {target : Expr} {it : Value} {body orelse : List Stmt} (I : Nat → Shared → Prop)
    (turn : ∀ n s, I n s → wpAny (model prog w) A (pyNext it) (fun r s₁ => match r with
      | none => wpAny (model prog w) A (execs orelse env) (fun f s₃ => R (.ok f) s₃) (notedBy (model prog w) A env fun e s' => R (.error e) s') s₁
      | some v => wpAny (model prog w) A (letOwnedTupleGo target it v) (fun _ s₀ => wpAny (model prog w) A (assign target env v) (fun _ s₂ => wpAny (model prog w) A (execs body env) (fun f s₃ => match f with
          | .next | .cont => ∃ m, m < n ∧ I m s₃
          | .brk => R (.ok .next) s₃
          | .ret v => R (.ok (.ret v)) s₃) (notedBy (model prog w) A env fun e s' => R (.error e) s') s₂) (notedBy (model prog w) A env fun e s' => R (.error e) s') s₀) (notedBy (model prog w) A env fun e s' => R (.error e) s') s₁) (notedBy (model prog w) A env fun e s' => R (.error e) s') s)
    (n : Nat) (h : I n s) : codeAny (model prog w) A (.forLoop target it body orelse env) R s := by
  refine codeAny_loop' rfl I (fun n s hI => ?_) n h
  show wpAny _ _ ((forTurn target it body orelse env).onRaise (fun x => do noteFrame x env; theTreesLotGoes x)) _ _ s
  refine wpAny_noted ?_
  simp only [forTurn]
  refine wpAny_bind (wpAny_standAt (wpAny_bind (wpAny_onRaise (wpAny_mono (turn n s hI) (fun r s₁ h₁ => ?_) fun _ _ q => wpAny_standAt q))))
  cases r with
  | none => exact wpAny_pure (.inr ⟨rfl, codeAny_block h₁⟩)
  | some v =>
    refine wpAny_bind (wpAny_mono h₁ (fun _ s₀ h₀ => wpAny_bind (wpAny_mono h₀ (fun _ s₂ h₂ => wpAny_bind (wpAny_mono h₂ (fun f s₃ h₃ => ?_) fun _ _ q => q)) fun _ _ q => q)) fun _ _ q => q)
    cases f with
    | next => exact wpAny_pure (.inl ⟨rfl, h₃⟩)
    | cont => exact wpAny_pure (.inl ⟨rfl, h₃⟩)
    | brk => exact wpAny_pure h₃
    | ret v => exact wpAny_pure h₃

theorem St.moveIt {I : Addr} (S : St prog w B cx O G h ρ) (hI : I ∉ O) (hx : ∃ o vs, h.get? I = some o ∧ o.data = .fields vs) (hk : ∀ b o, b ≠ I → h.get? b = some o → h'.get? b = some o) (gg : GLe G G') (gh : ∀ a o, G' a = some o → h'.get? a = some o)
    (nw : ∀ b o, h.get? b = some o → G b = none → G' b = none) : St prog w B cx O G' h' ρ := by
  refine ⟨fun a o e => gg _ _ (S.base a o e), gh, fun a m => ?_, fun ho => ⟨(S.cells ho).1, fun q hq => ?_⟩, fun p hp => ?_, ?_⟩
  · obtain ⟨z, o, e⟩ := S.own a m
    exact ⟨nw a o e z, o, hk a o (fun q => hI (q ▸ m)) e⟩
  · obtain ⟨z1, v, o, e, hd⟩ := (S.cells ho).2 q hq
    exact ⟨z1, v, o, hk _ _ (fun y => hI (y ▸ z1)) e, hd⟩
  · obtain ⟨m₁, ⟨o, es, ep, z1, z2⟩, e2⟩ := S.pin p hp
    obtain ⟨m, μ, hns, hnd, hin, hv⟩ := S.fr
    have hL := hin _ (List.mem_cons_self ..)
    exact ⟨m₁, ⟨o, es, ep, hk _ _ (fun y => hI (y ▸ hL)) z1, z2⟩, e2⟩
  · obtain ⟨m, μ, hns, hnd, hin, hv⟩ := S.fr
    have hL := hin _ (List.mem_cons_self ..)
    refine ⟨m, μ, ?_, hnd, hin, fun y d e => ?_⟩
    · obtain ⟨o, es, ep, z1, z2⟩ := hns
      exact ⟨o, es, ep, hk _ _ (fun y => hI (y ▸ hL)) z1, z2⟩
    · cases hv y d e with
      | loc z1 z2 z3 z4 => exact .loc z1 z2 z3 (z4.mono gg)
      | own z1 z2 z3 z4 z5 =>
        rename_i a v
        have ha : a ∈ O := hin _ (List.mem_cons_of_mem _ (List.mem_map.mpr ⟨(y, a), mem_of_lookup z3, rfl⟩))
        obtain ⟨o, ho⟩ := z5.exists
        exact .own z1 z2 z3 z4 (z5.grow gg ((hk _ _ (fun q => hI (q ▸ ha)) ho).trans ho.symm))
      | cell z1 z2 z3 z4 z5 =>
        rename_i c v
        obtain ⟨o, ho, hd⟩ := z4
        refine .cell z1 z2 z3 ⟨o, hk _ _ (fun q => ?_) ho, hd⟩ (z5.mono gg)
        obtain ⟨o', vs, e', d'⟩ := hx
        rw [q, e'] at ho; cases ho; rw [hd] at d'; cases d'

theorem Step.moveIt {I : Addr} {s : Heap} {O₁ : List Addr} {G₁ : GMap} {h₁ : Heap} (k₁ : Step O G s O₁ G₁ h₁) (S : ∀ b ∈ O₁, ∃ o, h₁.get? b = some o) (hI0 : I ∉ O) (hI : I ∉ O₁) (hIs : s.get? I = none) (hk : ∀ b o, b ≠ I → h₁.get? b = some o → h'.get? b = some o) (gg : GLe G₁ G')
    (nw : ∀ b o, h₁.get? b = some o → G₁ b = none → G' b = none) : Step O G s O₁ G' h' := by
  refine ⟨fun b m => ?_, k₁.on, fun b m => ?_, k₁.gg.trans gg, fun b o nb e => hk b o (fun q => by rw [q, hIs] at e; cases e) (k₁.keep b o nb e), fun b o nb e ng => nw b o (k₁.keep b o nb e) (k₁.new b o nb e ng)⟩
  · obtain ⟨o, e⟩ := k₁.al b m; exact ⟨o, hk b o (fun q => hI0 (q ▸ m)) e⟩
  · obtain ⟨o, e⟩ := S b m; exact ⟨o, hk b o (fun q => hI (q ▸ m)) e⟩

theorem WS.for {target iter : Expr} {body : List Stmt} {p : Pos}
    (x : WI prog w B cx iter target (fun ds => ∃ Inv : List D → List (Str × D) → Prop, Inv ds ρ ∧
      (∀ d rest ρ', Inv (d :: rest) ρ' → WT prog w B cx target d (fun ρ'' => WSs prog w B cx body (Turn Φ (Inv rest)) ρ'') ρ') ∧ ∀ ρ', Inv [] ρ' → Φ .next ρ') ρ)
    (hs : ∀ x, foldedSetIterable iter cx.env x = pure x := by intro _; rfl) : WS prog w B cx (.For target iter body [] p) Φ ρ := fun O G s Q E S tk R => by
  refine wpAny_For (x O G s _ E S tk fun I ds Sg h₀ tk₀ G₀ k₀ e₀ n₀ its s₀ t₀ z₀ => ?_) hs
  obtain ⟨Inv, i0, turn, fin⟩ := z₀
  have S₀ := S.grow k₀
  have hIO₀ : I ∉ O := fun q => by
    obtain ⟨_, o, e⟩ := S.own _ q
    rw [e₀] at e; cases e
  refine codeAny_forLoopT (s := { s with heap := h₀, toks := tk₀ }) (fun n s' => ∃ O' G' h' tk' ρ', s' = { s with heap := h', toks := tk' } ∧ Step O G s.heap O' G' h' ∧ St prog w B cx O' G' h' ρ' ∧ s.toks ≤ tk' ∧ n ≤ ds.length ∧ Sg (ds.length - n) G' h' ∧ I ∉ O' ∧ G' I = none ∧ Inv (ds.drop (ds.length - n)) ρ') ?_ ds.length
    ⟨O, G₀, h₀, tk₀, ρ, rfl, Step.grow S k₀, S₀, t₀, Nat.le_refl _, by rw [Nat.sub_self]; exact s₀, hIO₀, n₀, by rw [Nat.sub_self]; exact i0⟩
  rintro n s' ⟨O₁, G₁, h₁, tk₁, ρ₁, rfl, k₁, S₁, t₁, hn, sg, hIO, hIG, i₁⟩
  have hx := its.ex _ _ _ sg
  cases n with
  | zero =>
    rw [Nat.sub_zero] at sg i₁
    rw [List.drop_length] at i₁
    refine its.done G₁ { s with heap := h₁, toks := tk₁ } _ _ S₁.keep sg fun h₂ tk₂ hk t₂ => ?_
    have gh : ∀ a o, G₁ a = some o → h₂.get? a = some o := fun a o e => hk a o (fun q => by subst q; rw [hIG] at e; cases e) (S₁.keep a o e)
    have S₂ := S₁.moveIt hIO hx hk (GLe.refl _) gh fun _ _ _ e => e
    exact wpAny_execs_nil (R .next .next ρ₁ h₂ tk₂ O₁ G₁ (k₁.moveIt (fun b m => (S₁.own b m).2) hIO₀ hIO e₀ hk (GLe.refl _) fun _ _ _ e => e) S₂ trivial (Nat.le_trans t₁ t₂) (fin _ i₁))
  | succ n =>
    have hlt : ds.length - (n + 1) < ds.length := by omega
    have hd : ds[ds.length - (n + 1)]? = some (ds[ds.length - (n + 1)]'hlt) := List.getElem?_eq_getElem hlt
    rw [List.drop_eq_getElem_cons hlt] at i₁
    have hnx : ds.length - (n + 1) + 1 = ds.length - n := by omega
    rw [hnx] at i₁
    refine its.item (ds.length - (n + 1)) G₁ { s with heap := h₁, toks := tk₁ } _ _ _ _ (ds[ds.length - (n + 1)]'hlt) hd S₁.keep hIG sg fun v h₂ tk₂ G₂ gg gh hk nw t₂ r sg₂ => ?_
    · have S₂ := S₁.moveIt hIO hx hk gg gh nw
      have k₂ := k₁.moveIt (fun b m => (S₁.own b m).2) hIO₀ hIO e₀ hk gg nw
      obtain ⟨oI, _, eI, _⟩ := hx
      have hIG₂ : G₂ I = none := nw I oI eI hIG
      refine turn _ _ ρ₁ i₁ O₁ G₂ { s with heap := h₂, toks := tk₂ } _ _ v S₂ r fun h₃ tk₃ ρ₃ k₃ S₃ t₃ z₃ => ?_
      refine z₃ O₁ G₂ { s with heap := h₃, toks := tk₃ } _ _ S₃ (Nat.lt_of_lt_of_le tk (Nat.le_trans (Nat.le_trans t₁ t₂) t₃)) fun f fl ρ₄ h₄ tk₄ O₄ G₄ k₄ S₄ p₄ t₄ z₄ => ?_
      have kk := (k₂.trans k₃).trans k₄
      have tt := Nat.le_trans (Nat.le_trans (Nat.le_trans t₁ t₂) t₃) t₄
      rw [hnx] at sg₂
      -- the iterator still stands
      obtain ⟨oI₂, _, eI₂, _⟩ := its.ex _ _ _ sg₂
      have eI₃ := k₃.keep I oI₂ hIO eI₂
      have again : Inv (ds.drop (ds.length - n)) ρ₄ → ∃ m, m < n + 1 ∧ ∃ O' G' h' tk' ρ', ({ s with heap := h₄, toks := tk₄ } : Shared) = { s with heap := h', toks := tk' } ∧ Step O G s.heap O' G' h' ∧ St prog w B cx O' G' h' ρ' ∧ s.toks ≤ tk' ∧ m ≤ ds.length ∧ Sg (ds.length - m) G' h' ∧ I ∉ O' ∧ G' I = none ∧ Inv (ds.drop (ds.length - m)) ρ' := fun i => by
        have hIO₄ : I ∉ O₄ := fun q => by
          rcases k₄.on I q with q | q
          · exact hIO q
          · rw [eI₃] at q; cases q
        refine ⟨n, Nat.lt_succ_self _, O₄, G₄, h₄, tk₄, ρ₄, rfl, kk, S₄, tt, by omega, ?_, hIO₄, k₄.new I oI₂ hIO eI₃ (k₃.new I oI₂ hIO eI₂ hIG₂), i⟩
        exact its.frame _ _ _ _ _ sg₂ k₄.gg fun o e => k₄.keep I o hIO (k₃.keep I o hIO e)
      cases f <;> cases fl <;> first | exact p₄.elim | skip
      · exact again z₄
      · exact R .next .next ρ₄ h₄ tk₄ O₄ G₄ kk S₄ trivial tt z₄
      · exact again z₄
      · exact R _ (.ret _) ρ₄ h₄ tk₄ O₄ G₄ kk S₄ p₄ tt z₄
end
end

open PySem.Builtin.Str (occurrences)
section
section
variable {prog : Program} {w : World} {K : Frag} {B : Base K} {cx : Cx} {O O' : List Addr} {G G' : GMap} {h h' : Heap} {ρ : List (Str × D)} {Φ : Fl → List (Str × D) → Prop}

/-- a mutable list is turned in place -/
theorem St.turnList {x : Str} {ds : List D} (S : St prog w B cx O G h ρ) (hl : ρ.lookup x = some (.lst ds)) (hm : cx.mu.contains x = true) :
    ∃ m a vs n, cx.env.kindOf x = some .local ∧ h.Ns cx.env.locals m ∧ m x = some (.ref a) ∧ h.get? a = some (lstO vs n) ∧ RepL prog w G vs ds ∧ a ∈ O ∧
      ∀ (f : Array Value → Array Value) (us : List Value) (es : List D), f vs.toArray = us.toArray → RepL prog w G us es → St prog w B cx O G (h.update a (Obj.mapSeq f)) ((x, .lst es) :: ρ) ∧ Step O G h O G (h.update a (Obj.mapSeq f)) := by
  obtain ⟨m, v, a, h1, h2, h3, M, h4, h5, h6⟩ := S.turn hl hm
  cases M with
  | lst e l =>
    rename_i vs n
    refine ⟨m, a, vs, n, h1, h2, h3, e, l, h4, fun f us es hf hu => ?_⟩
    have e' : (h.update a (Obj.mapSeq f)).get? a = some (lstO us (if (f vs.toArray).size == vs.toArray.size then n else n + 1)) := by
      have := (lstO_IsL e).update f
      rw [hf] at this ⊢
      exact this
    exact ⟨h6 _ _ (Heap.SameBut.update ..) (.lst e' hu), Step.same S h4 (Heap.SameBut.update ..) ⟨_, e'⟩⟩

/-- the same behind a step that grows -/
theorem turnAt {x : Str} {ds : List D} {h₁ : Heap} {G₁ : GMap} (S : St prog w B cx O G h ρ) (hl : ρ.lookup x = some (.lst ds)) (hm : cx.mu.contains x = true) {a : Addr} {vs : List Value} {n : Nat}
    (k : Grow G h G₁ h₁) {m : Str → Option Value} (hns : h.Ns cx.env.locals m) (hv : m x = some (.ref a)) (e : h.get? a = some (lstO vs n)) (l : RepL prog w G vs ds) :
    ∀ (f : Array Value → Array Value) (us : List Value) (es : List D), f vs.toArray = us.toArray → RepL prog w G₁ us es → St prog w B cx O G₁ (h₁.update a (Obj.mapSeq f)) ((x, .lst es) :: ρ) ∧ Step O G h O G₁ (h₁.update a (Obj.mapSeq f)) := by
  intro f us es hf hu
  obtain ⟨m', a', vs', n', h1, h2, h3, e', l', h4, fin⟩ := (S.grow k).turnList hl hm
  have hm' : m' = m := by
    obtain ⟨o, es, ep, z1, z2, z3, z4⟩ := hns.keeps k.hh
    obtain ⟨o', es', ep', y1, y2, y3, y4⟩ := h2
    rw [z1] at y1; cases y1; rw [z2] at y2; cases y2
    exact funext fun n => (y4 n).symm.trans (z4 n)
  subst hm'
  rw [hv] at h3; cases h3
  have := k.hh _ _ e
  rw [e'] at this
  obtain ⟨e1, _⟩ : vs' = vs ∧ n' = n := by
    have q := Option.some.inj this
    simp only [Obj.mk.injEq, Data.seq.injEq, true_and, and_true] at q
    exact ⟨by simpa using q.1, q.2⟩
  subst e1
  obtain ⟨y1, y2⟩ := fin f us es hf hu
  exact ⟨y1, (Step.grow S k).trans y2⟩

theorem WS.append {x : Str} {xp ap p p' : Pos} {e : Expr} {ds : List D} {pl : Sem Bool} (hl : ρ.lookup x = some (.lst ds)) (hz : ds.length ≤ sizeLine) (y : WE prog w B cx e (fun d => Φ .next ((x, .lst (ds ++ [d])) :: ρ)) ρ) (hm : cx.mu.contains x = true := by rfl)
    (hn : noStar e = true := by rfl) (hd : (x == ("__debug__" : Str)) = false := by rfl) (hi : interactive cx.env = false := by rfl) (hs : swapsWith (.Call (.Attribute (.Name x xp) "append" ap) [e] [] p) none p'.line cx.env = pure false := by rfl)
    (he : eval (.Call (.Attribute (.Name x xp) "append" ap) [e] [] p) cx.env = (do let ov ← eval (.Name x xp) cx.env; standAt ap.atName; let (f, first) ← holding [ov] (getMethod ov "append" pl); callWith p f first (backTo p (starEach [e] cx.env)) []) := by rfl) :
    WS prog w B cx (.Expr (.Call (.Attribute (.Name x xp) "append" ap) [e] [] p) p') Φ ρ := fun O G s Q E S tk R => by
  obtain ⟨m, a, vs, n, hk, hns, hv, ea, l, haO, _⟩ := S.turnList hl hm
  refine wpAny_Expr ?_ hi hs
  refine PyProof.Rows.MethodCall_ (wpAny_Name (wpAny_loadName_local cx.kind hk hns hv ?_) hd) he
  refine getMethod_list_append ea rfl rfl ?_
  rw [starEach_plain (es := [e]) (by rw [List.all_cons, hn]; rfl)]
  refine P.append_list (y O G s _ E S tk fun v d h₁ tk₁ G₁ k₁ p₁ t₁ z₁ => ?_)
  obtain ⟨S₂, k₂⟩ := turnAt S hl hm k₁ hns hv ea l (fun xs => xs.push v) (vs ++ [v]) (ds ++ [d]) (by simp) ((l.mono k₁.gg).append (.single p₁))
  exact ⟨vs.toArray, n, by rw [List.size_toArray, l.length]; exact hz, lstO_IsL (k₁.hh _ _ ea), R .next .next _ _ _ O G₁ k₂ S₂ trivial t₁ z₁⟩

theorem WS.extend {x : Str} {xp ap p p' : Pos} {e : Expr} {ds : List D} {pl : Sem Bool} (hl : ρ.lookup x = some (.lst ds))
    (y : WE prog w B cx e (fun d => ∃ es, d = .lst es ∧ ds.length + es.length ≤ 100000 ∧ Φ .next ((x, .lst (ds ++ es)) :: ρ)) ρ) (hm : cx.mu.contains x = true := by rfl)
    (hn : noStar e = true := by rfl) (hd : (x == ("__debug__" : Str)) = false := by rfl) (hi : interactive cx.env = false := by rfl) (hs : swapsWith (.Call (.Attribute (.Name x xp) "extend" ap) [e] [] p) none p'.line cx.env = pure false := by rfl)
    (he : eval (.Call (.Attribute (.Name x xp) "extend" ap) [e] [] p) cx.env = (do let ov ← eval (.Name x xp) cx.env; standAt ap.atName; let (f, first) ← holding [ov] (getMethod ov "extend" pl); callWith p f first (backTo p (starEach [e] cx.env)) []) := by rfl) :
    WS prog w B cx (.Expr (.Call (.Attribute (.Name x xp) "extend" ap) [e] [] p) p') Φ ρ := fun O G s Q E S tk R => by
  obtain ⟨m, a, vs, n, hk, hns, hv, ea, l, haO, _⟩ := S.turnList hl hm
  refine wpAny_Expr ?_ hi hs
  refine PyProof.Rows.MethodCall_ (wpAny_Name (wpAny_loadName_local cx.kind hk hns hv ?_) hd) he
  refine getMethod_builtin (T := "list") (lstO_isList ea).typeIs PySem.F.plainAttrs_list PySem.F.slot_list_extend (by show builtinType _ = _; rw [builtinType_eq_fast]; kernel_rfl) (fun b q => by cases q; exact ⟨_, ea, rfl⟩) ?_
  rw [starEach_plain (es := [e]) (by rw [List.all_cons, hn]; rfl)]
  refine P.extend_list (y O G s _ E S tk fun v d h₁ tk₁ G₁ k₁ p₁ t₁ z₁ => ?_)
  obtain ⟨es, rfl, hz, z⟩ := z₁
  obtain ⟨b, us, n', rfl, eb, l'⟩ := (Vis.rep (h := h₁) p₁).lstAt k₁.gh
  obtain ⟨S₂, k₂⟩ := turnAt S hl hm k₁ hns hv ea l (fun xs => xs ++ us.toArray) (vs ++ us) (ds ++ es) (by simp) ((l.mono k₁.gg).append l')
  have z1 := l.length
  have z2 := l'.length
  have hsl : sizeLine = 16777216 := by rw [sizeLine_eq]
  refine ⟨b, vs.toArray, us.toArray, n, n', by rw [List.size_toArray]; omega, by rw [List.size_toArray, List.size_toArray]; omega, ?_, rfl, lstO_IsL (k₁.hh _ _ ea), lstO_IsL eb, R .next .next _ _ _ O G₁ k₂ S₂ trivial t₁ z⟩
  have : Builtin.List.listTooLong (vs.toArray.size + us.toArray.size) = false := by
    unfold Builtin.List.listTooLong
    simp only [List.size_toArray, decide_eq_false_iff_not]
    omega
  rw [this, Bool.and_false]; exact Bool.false_ne_true

theorem WS.insert {x : Str} {xp ap p p' : Pos} {ei e : Expr} {ds : List D} {pl : Sem Bool} (hl : ρ.lookup x = some (.lst ds)) (hz : ds.length ≤ 100000)
    (y : WL prog w B cx [ei, e] (fun ys => ∃ (i : Int) (d : D), ys = [.int i, d] ∧ 0 ≤ i ∧ i.toNat ≤ ds.length ∧ Φ .next ((x, .lst (ds.take i.toNat ++ d :: ds.drop i.toNat)) :: ρ)) ρ) (hm : cx.mu.contains x = true := by rfl)
    (hn : [ei, e].all noStar = true := by rfl) (hd : (x == ("__debug__" : Str)) = false := by rfl) (hi : interactive cx.env = false := by rfl) (hs : swapsWith (.Call (.Attribute (.Name x xp) "insert" ap) [ei, e] [] p) none p'.line cx.env = pure false := by rfl)
    (he : eval (.Call (.Attribute (.Name x xp) "insert" ap) [ei, e] [] p) cx.env = (do let ov ← eval (.Name x xp) cx.env; standAt ap.atName; let (f, first) ← holding [ov] (getMethod ov "insert" pl); callWith p f first (backTo p (starEach [ei, e] cx.env)) []) := by rfl) :
    WS prog w B cx (.Expr (.Call (.Attribute (.Name x xp) "insert" ap) [ei, e] [] p) p') Φ ρ := fun O G s Q E S tk R => by
  obtain ⟨m, a, vs, n, hk, hns, hv, ea, l, haO, _⟩ := S.turnList hl hm
  refine wpAny_Expr ?_ hi hs
  refine PyProof.Rows.MethodCall_ (wpAny_Name (wpAny_loadName_local cx.kind hk hns hv ?_) hd) he
  refine getMethod_builtin (T := "list") (lstO_isList ea).typeIs PySem.F.plainAttrs_list PySem.F.slot_list_insert (by show builtinType _ = _; rw [builtinType_eq_fast]; kernel_rfl) (fun b q => by cases q; exact ⟨_, ea, rfl⟩) ?_
  refine callWith_at Keeps.builtin (WA.of y hn) S tk fun us ys h₁ tk₁ G₁ k₁ r₁ t₁ z₁ => ?_
  obtain ⟨i, d, rfl, hi0, hile, z⟩ := z₁
  cases r₁ with | cons r1 r₁ => cases r1 with | int _ t => cases r₁ with | cons r2 r₁ => cases r₁ with | nil =>
  rename_i v
  have z1 := l.length
  have hsl : sizeLine = 16777216 := by rw [sizeLine_eq]
  have hvz : vs.toArray.size ≤ sizeLine := by rw [List.size_toArray, hsl]; omega
  have hfi : ¬(!Builtin.List.listFitsIndex i) = true := by
    have : Builtin.List.listFitsIndex i = true := by
      unfold Builtin.List.listFitsIndex
      simp only [Bool.and_eq_true, decide_eq_true_eq]
      omega
    rw [this]; exact Bool.false_ne_true
  show wpAny _ _ (call (.builtin "list.insert") [.ref a, .int i t, v]) _ _ _
  have hM := PySem.AutoSeq1.list_insert_list_int_val_1 a vs.toArray n i t v hfi hvz
  refine call_meets (T := "list") PySem.F.slot_list_insert ⟨_, k₁.hh _ _ ea, rfl⟩ PySem.F.entry_list_insert (PySem.F.args_list_insert_3 _ _ _) hM ⟨k₁.hh _ _ ea, ?_⟩
  have hi0' : ¬ (i < 0) := by omega
  have hmin : min i.toNat vs.toArray.size = i.toNat := by rw [List.size_toArray]; omega
  have hf : (fun xs : Array Value => have k := if i < 0 then (i + ((xs.size : Nat) : Int)).toNat else min i.toNat xs.size; (xs.extract 0 k).push v ++ xs.extract k) vs.toArray = (vs.take i.toNat ++ v :: vs.drop i.toNat).toArray := by
    simp only [hi0', if_false, hmin]
    apply Array.ext'
    simp
    rw [List.take_of_length_le]
    rw [List.length_drop]; omega
  obtain ⟨S₂, k₂⟩ := turnAt S hl hm k₁ hns hv ea l (fun xs : Array Value => have k := if i < 0 then (i + ((xs.size : Nat) : Int)).toNat else min i.toNat xs.size; (xs.extract 0 k).push v ++ xs.extract k) (vs.take i.toNat ++ v :: vs.drop i.toNat) (ds.take i.toNat ++ d :: ds.drop i.toNat) hf (((l.mono k₁.gg).take i.toNat).append (.cons r2 ((l.mono k₁.gg).drop i.toNat)))
  exact R .next .next _ _ _ O G₁ k₂ S₂ trivial t₁ z

theorem WS.setItem {x : Str} {xp sp p : Pos} {ei e : Expr} {ds : List D}
    (y : WE prog w B cx e (fun d => WE prog w B cx ei (fun i => ∃ n : Nat, i = .int n ∧ n < ds.length ∧ Φ .next ((x, .lst (ds.set n d)) :: ρ)) ρ) ρ) (hl : ρ.lookup x = some (.lst ds)) (hz : ds.length ≤ 100000) (hm : cx.mu.contains x = true := by rfl)
    (hd : (x == ("__debug__" : Str)) = false := by rfl) (hs : swapsWith e (some (.Subscript (.Name x xp) ei sp)) p.line cx.env = pure false := by rfl) : WS prog w B cx (.Assign [.Subscript (.Name x xp) ei sp] e p) Φ ρ := fun O G s Q E S tk R => by
  refine wpAny_Assign_Subscript (y O G s _ E S tk fun v d h₁ tk₁ G₁ k₁ p₁ t₁ z₁ => ?_) hs
  have S₁ := S.grow k₁
  obtain ⟨m, a, vs, n, hk, hns, hv, ea, l, haO, _⟩ := S₁.turnList hl hm
  refine wpAny_Name (wpAny_loadName_local (s := { s with heap := h₁, toks := tk₁ }) cx.kind hk hns hv ?_) hd
  refine z₁ O G₁ { s with heap := h₁, toks := tk₁ } _ E S₁ (Nat.lt_of_lt_of_le tk t₁) fun u i h₂ tk₂ G₂ k₂ p₂ t₂ z₂ => ?_
  obtain ⟨j, rfl, hj, z⟩ := z₂
  cases p₂ with | int _ t =>
  have z1 := l.length
  refine ki_setAt (k₂.hh _ _ ea) (by omega) (by omega) (by rw [List.size_toArray]; omega) ?_
  obtain ⟨S₃, k₃⟩ := turnAt S₁ hl hm k₂ hns hv ea l (·.setIfInBounds (j : Int).toNat v) (vs.set j v) (ds.set j d) (by simp) (RepL.set (p₁.mono k₂.gg) (l.mono k₂.gg) j)
  exact R .next .next _ _ _ O G₂ ((Step.grow S k₁).trans k₃) S₃ trivial (Nat.le_trans t₁ t₂) z
end
end

open PySem.Builtin.Str (occurrences)
section

noncomputable def putD (k : Str) (d : D) (ds : List (Str × D)) : List (Str × D) :=
  if ds.any (fun e => e.1 = k) then ds.map (fun e => if e.1 = k then (e.1, d) else e) else ds ++ [(k, d)]

section
variable {prog : Program} {w : World} {K : Frag} {B : Base K} {cx : Cx} {O O' : List Addr} {G G' : GMap} {h h' : Heap} {ρ : List (Str × D)} {Φ : Fl → List (Str × D) → Prop}

theorem RepK.any {k : Str} : ∀ {kvs : List (Str × Value)} {ds : List (Str × D)}, RepK prog w G kvs ds → kvs.any (fun e => e.1 = k) = ds.any (fun e => e.1 = k)
  | _, _, .nil => rfl
  | _, _, .cons h l => by rw [List.any_cons, List.any_cons, RepK.any l]
theorem RepK.map {k : Str} {v : Value} {d : D} (r : Rep prog w G v d) : ∀ {kvs : List (Str × Value)} {ds : List (Str × D)}, RepK prog w G kvs ds → RepK prog w G (kvs.map fun e => if e.1 = k then (e.1, v) else e) (ds.map fun e => if e.1 = k then (e.1, d) else e)
  | _, _, .nil => .nil
  | _, _, .cons (k := k') h l => by
    rw [List.map_cons, List.map_cons]
    by_cases q : k' = k
    · rw [if_pos q, if_pos q]; exact .cons r (RepK.map r l)
    · rw [if_neg q, if_neg q]; exact .cons h (RepK.map r l)
theorem RepK.snoc {k : Str} {v : Value} {d : D} (r : Rep prog w G v d) : ∀ {kvs : List (Str × Value)} {ds : List (Str × D)}, RepK prog w G kvs ds → RepK prog w G (kvs ++ [(k, v)]) (ds ++ [(k, d)])
  | _, _, .nil => .cons r .nil
  | _, _, .cons h l => .cons h (RepK.snoc r l)
theorem RepK.put {k : Str} {v : Value} {d : D} {kvs : List (Str × Value)} {ds : List (Str × D)} (r : Rep prog w G v d) (l : RepK prog w G kvs ds) : RepK prog w G (stored kvs k v) (putD k d ds) := by
  unfold stored putD
  rw [l.any]
  split
  · exact l.map r
  · exact l.snoc r

theorem WS.setDict {x : Str} {xp sp p : Pos} {ek e : Expr} {ds : List (Str × D)}
    (y : WE prog w B cx e (fun d => WE prog w B cx ek (fun i => ∃ k : Str, i = .str k ∧ Φ .next ((x, .dic (putD k d ds)) :: ρ)) ρ) ρ) (hl : ρ.lookup x = some (.dic ds)) (hz : ds.length ≤ 100000) (hm : cx.mu.contains x = true := by rfl)
    (hd : (x == ("__debug__" : Str)) = false := by rfl) (hs : swapsWith e (some (.Subscript (.Name x xp) ek sp)) p.line cx.env = pure false := by rfl) : WS prog w B cx (.Assign [.Subscript (.Name x xp) ek sp] e p) Φ ρ := fun O G s Q E S tk R => by
  refine wpAny_Assign_Subscript (y O G s _ E S tk fun v d h₁ tk₁ G₁ k₁ p₁ t₁ z₁ => ?_) hs
  have S₁ := S.grow k₁
  obtain ⟨m, v', a, hk, hns, hv, M, haO, _, _⟩ := S₁.turn hl hm
  cases M with
  | dic hsys ea i l =>
    refine wpAny_Name (wpAny_loadName_local (s := { s with heap := h₁, toks := tk₁ }) cx.kind hk hns hv ?_) hd
    refine z₁ O G₁ { s with heap := h₁, toks := tk₁ } _ E S₁ (Nat.lt_of_lt_of_le tk t₁) fun u ii h₂ tk₂ G₂ k₂ p₂ t₂ z₂ => ?_
    obtain ⟨k, rfl, z⟩ := z₂
    cases p₂ with | str _ t =>
    have S₂ := S₁.grow k₂
    obtain ⟨m', v'', a', hk', hns', hv', M', haO', _, fin⟩ := S₂.turn hl hm
    have hm' : m' = m := by
      obtain ⟨o, es, ep, z1, z2, z3, z4⟩ := hns.keeps k₂.hh
      obtain ⟨o', es', ep', y1, y2, y3, y4⟩ := hns'
      rw [z1] at y1; cases y1; rw [z2] at y2; cases y2
      exact funext fun n => (y4 n).symm.trans (z4 n)
    subst hm'
    rw [hv] at hv'; cases hv'
    cases M' with
    | dic hsys' ea' i' l' =>
      have DD : (({ s with heap := h₂, toks := tk₂ } : Shared)).heap.DictOf (strKind prog w) a _ := Heap.dictOf_iff.mpr ⟨_, ea', i'⟩
      have zl := l'.length
      have hsl : sizeLine = 16777216 := by rw [sizeLine_eq]
      refine wpAny_setItem_pairs (strKind_is prog w k t) DD (fun h₃ D₃ hsb => ?_) (by omega)
      obtain ⟨o₃, e₃, i₃⟩ := Heap.dictOf_iff.mp D₃
      have S₃ := fin h₃ (.dic (putD k d ds)) hsb (.dic hsys' e₃ i₃ (l'.put (p₁.mono k₂.gg)))
      exact R .next .next _ h₃ _ O G₂ (((Step.grow S k₁).trans (Step.grow S₁ k₂)).trans (Step.same S₂ haO' hsb ⟨_, e₃⟩)) S₃ trivial (Nat.le_succ_of_le (Nat.le_trans t₁ t₂)) z

theorem WS.aug {x : Str} {xp p : Pos} {op : Operator} {e : Expr} {d₀ : D} (hl : ρ.lookup x = some d₀) (y : WE prog w B cx e (fun d => J2 prog w B cx (inplaceOp op) d₀ d (fun r => Φ .next ((x, r) :: ρ))) ρ) (hk : cx.env.kindOf x = some .local) (hm : cx.mu.contains x = false := by rfl)
    (hd : (x == ("__debug__" : Str)) = false := by rfl) : WS prog w B cx (.AugAssign (.Name x xp) op e p) Φ ρ := fun O G s Q E S tk R => by
  refine wpAny_AugAssign_Name ?_
  obtain ⟨m, μ, hns, _, _, hv⟩ := S.fr
  cases hv x d₀ hl with
  | own _ h2 _ _ _ => rw [hm] at h2; cases h2
  | cell h1 _ _ _ _ => rcases h1 with h1 | h1 <;> (rw [hk] at h1; cases h1)
  | loc h1 _ h3 r0 =>
    refine wpAny_loadName_local cx.kind hk hns h3 ?_
    refine y O G s _ E S tk fun v d h₁ tk₁ G₁ k₁ p₁ t₁ z₁ => ?_
    refine z₁ G₁ { s with heap := h₁, toks := tk₁ } _ E _ v ((S.ok tk).grow k₁ t₁) (.rep (r0.mono k₁.gg)) (.rep p₁) fun u r h₂ tk₂ G₂ k₂ p₂ t₂ z₂ => ?_
    have S₂ := (S.grow k₁).grow k₂
    refine storeName_plain (s := { s with heap := h₂, toks := tk₂ }) S₂ p₂ (.inl hk) hm fun h₃ tk₃ k₃ S₃ t₃ => ?_
    exact R .next .next _ h₃ tk₃ O G₂ ((Step.grow S (k₁.trans k₂)).trans k₃) S₃ trivial (Nat.le_trans (Nat.le_trans t₁ t₂) t₃) z₂

/-- x[i] += e, of a list of the frame's own -/
theorem WS.augSub {x : Str} {xp sp p : Pos} {op : Operator} {ei e : Expr} {ds : List D} (hl : ρ.lookup x = some (.lst ds)) (hz : ds.length ≤ 100000)
    (y : WE prog w B cx ei (fun i => ∃ (n : Nat) (d₀ : D), i = .int n ∧ ds[n]? = some d₀ ∧ WE prog w B cx e (fun d => J2 prog w B cx (inplaceOp op) d₀ d (fun r => Φ .next ((x, .lst (ds.set n r)) :: ρ))) ρ) ρ) (hm : cx.mu.contains x = true := by rfl)
    (hd : (x == ("__debug__" : Str)) = false := by rfl) (hi : ∀ ov iv new, augStore ei ov iv new = (do holding [new, ov, iv] (PySem.setItem ov iv new); release [new, ov, iv] []; pure .next) := by intros; rfl) :
    WS prog w B cx (.AugAssign (.Subscript (.Name x xp) ei sp) op e p) Φ ρ := fun O G s Q E S tk R => by
  obtain ⟨m, a, vs, n, hk, hns, hv, ea, l, haO, _⟩ := S.turnList hl hm
  refine wpAny_AugAssign_SubscriptAny ?_ hi
  refine wpAny_Name (wpAny_loadName_local cx.kind hk hns hv ?_) hd
  refine y O G s _ E S tk fun u i h₁ tk₁ G₁ k₁ p₁ t₁ z₁ => ?_
  obtain ⟨j, d₀, rfl, hj, z⟩ := z₁
  cases p₁ with | int _ t =>
  obtain ⟨v₀, hv₀, r₀⟩ := (l.mono k₁.gg).get j d₀ hj
  have hjl : j < ds.length := (List.getElem?_eq_some_iff.mp hj).1
  have zl := l.length
  refine wpAny_getItem_list (s := { s with heap := h₁, toks := tk₁ }) (lstO_isList (k₁.hh _ _ ea)) (by omega) (by omega) (x := v₀) (by simpa using hv₀) ?_
  have S₁ := S.grow k₁
  refine z O G₁ { s with heap := h₁, toks := tk₁ } _ E S₁ (Nat.lt_of_lt_of_le tk t₁) fun v d h₂ tk₂ G₂ k₂ p₂ t₂ z₂ => ?_
  refine z₂ G₂ { s with heap := h₂, toks := tk₂ } _ E v₀ v (((S.ok tk).grow k₁ t₁).grow k₂ t₂) (.rep (r₀.mono k₂.gg)) (.rep p₂) fun r dr h₃ tk₃ G₃ k₃ p₃ t₃ z₃ => ?_
  have kk := (k₁.trans k₂).trans k₃
  refine ki_setAt (s := { s with heap := h₃, toks := tk₃ }) (kk.hh _ _ ea) (by omega) (by omega) (by rw [List.size_toArray]; omega) ?_
  obtain ⟨S₃, k₃'⟩ := turnAt S hl hm kk hns hv ea l (·.setIfInBounds (j : Int).toNat r) (vs.set j r) (ds.set j dr) (by simp) (RepL.set p₃ (l.mono kk.gg) j)
  exact R .next .next _ _ _ O G₃ k₃' S₃ trivial (Nat.le_trans (Nat.le_trans t₁ t₂) t₃) z₃

theorem WS.assignTup {elts : List Expr} {k : Nat} {tp p : Pos} {value : Expr} (y : WE prog w B cx value (fun d => WT prog w B cx (.Tuple elts k tp) d (Φ .next) ρ) ρ)
    (hs : swapsWithSole [.Tuple elts k tp] value p.line cx.env = pure false := by rfl) (hw : swappedStores [.Tuple elts k tp] value cx.env = pure none := by rfl) : WS prog w B cx (.Assign [.Tuple elts k tp] value p) Φ ρ := fun O G s Q E S tk R => by
  refine Assign_Tuple (y O G s _ E S tk fun v d h₁ tk₁ G₁ k₁ p₁ t₁ z₁ => ?_) hs hw
  refine z₁ O G₁ { s with heap := h₁, toks := tk₁ } _ E v (S.grow k₁) p₁ fun h₂ tk₂ ρ₂ k₂ S₂ t₂ z₂ => ?_
  exact R .next .next _ h₂ tk₂ O G₁ ((Step.grow S k₁).trans k₂) S₂ trivial (Nat.le_trans t₁ t₂) z₂

/-- two names, two values, stored from behind -/
theorem WS.assignSwap {elts : List Expr} {k : Nat} {tp p : Pos} {value : Expr} {x y : Str} (u : WE prog w B cx value (fun d => ∃ a b, d = .tup [a, b] ∧ Φ .next ((x, a) :: (y, b) :: ρ)) ρ) (hx : CanStore cx x) (hy : CanStore cx y)
    (hs : swapsWithSole [.Tuple elts k tp] value p.line cx.env = pure false := by rfl) (hw : swappedStores [.Tuple elts k tp] value cx.env = pure (some [x, y]) := by rfl) : WS prog w B cx (.Assign [.Tuple elts k tp] value p) Φ ρ := fun O G s Q E S tk R => by
  refine Assign_Tuple_swapped (u O G s _ E S tk fun v d h₁ tk₁ G₁ k₁ p₁ t₁ z₁ => ?_) hs hw
  obtain ⟨a, b, rfl, z⟩ := z₁
  cases p₁ with
  | tup e l =>
    rename_i ta vs n
    cases l with | cons r1 l => cases l with | cons r2 l => cases l with | nil =>
    rename_i v1 v2
    have eh : h₁.get? ta = some (tupO [v1, v2] n) := k₁.gh _ _ e
    have T : (({ s with heap := h₁, toks := tk₁ } : Shared)).heap.IsTuple ta [v1, v2].toArray := ⟨_, eh, rfl, n, rfl⟩
    show wpAny _ _ (unpackItems (.ref ta) ([v1, v2].toArray).size none) _ _ _
    refine wpAny_unpackItems_tuple cx.handled T fun h₂ he => ?_
    have g := Grow.heap k₁.gh (h' := h₂) fun b o e => he b o (Nat.ne_of_lt (Heap.lt_size e)) e
    have S₂ := (S.grow k₁).grow g
    show wpAny _ _ (assignInOrder [fun v => bindName cx.env y v, fun v => bindName cx.env x v] [v2, v1]) _ _ _
    refine assignInOrder_cons (wpAny_bindName ?_)
    refine storeName_plain (s := { s with heap := h₂, toks := tk₁ }) S₂ r2 hy.1 hy.2 fun h₃ tk₃ k₃ S₃ t₃ => ?_
    refine assignInOrder_cons (wpAny_bindName ?_)
    refine storeName_plain (s := { s with heap := h₃, toks := tk₃ }) S₃ r1 hx.1 hx.2 fun h₄ tk₄ k₄ S₄ t₄ => ?_
    refine assignInOrder_nil ?_
    exact R .next .next _ h₄ tk₄ O G₁ (((Step.grow S (k₁.trans g)).trans k₃).trans k₄) S₄ trivial (Nat.le_trans (Nat.le_trans t₁ t₃) t₄) z

theorem WS.assign3 {x y z : Str} {xp yp zp p : Pos} {value : Expr} (u : WE prog w B cx value (fun d => Φ .next ((z, d) :: (y, d) :: (x, d) :: ρ)) ρ) (hx : CanStore cx x) (hy : CanStore cx y) (hz : CanStore cx z)
    (he : (assignEach [.Name x xp, .Name y yp, .Name z zp] cx.env).map (·.2) = [PySem.assign (.Name x xp) cx.env, PySem.assign (.Name y yp) cx.env, PySem.assign (.Name z zp) cx.env] := by rfl) (hw : swappedStores [.Name x xp, .Name y yp, .Name z zp] value cx.env = pure none := by rfl) :
    WS prog w B cx (.Assign [.Name x xp, .Name y yp, .Name z zp] value p) Φ ρ := fun O G s Q E S tk R => by
  refine wpAny_Assign_three (u O G s _ E S tk fun v d h₁ tk₁ G₁ k₁ p₁ t₁ z₁ => ?_) he hw
  have S₁ := S.grow k₁
  refine wpAny_assign_Name (storeName_plain (s := { s with heap := h₁, toks := tk₁ }) S₁ p₁ hx.1 hx.2 fun h₂ tk₂ k₂ S₂ t₂ => ?_)
  refine wpAny_assign_Name (storeName_plain (s := { s with heap := h₂, toks := tk₂ }) S₂ p₁ hy.1 hy.2 fun h₃ tk₃ k₃ S₃ t₃ => ?_)
  refine wpAny_assign_Name (storeName_plain (s := { s with heap := h₃, toks := tk₃ }) S₃ p₁ hz.1 hz.2 fun h₄ tk₄ k₄ S₄ t₄ => ?_)
  exact R .next .next _ h₄ tk₄ O G₁ ((((Step.grow S k₁).trans k₂).trans k₃).trans k₄) S₄ trivial (Nat.le_trans (Nat.le_trans (Nat.le_trans t₁ t₂) t₃) t₄) z₁

/-- four numbers and a new dict -/
theorem WS.assignTupNew {n1 n2 n3 n4 t : Str} {q1 q2 q3 q4 qt tp vp dp p : Pos} {i1 i2 i3 i4 : Int} {c1 c2 c3 c4 k kk : Nat} {r1 r2 r3 r4 : Pos}
    (y : Φ .next ((t, .dic []) :: (n4, .int i4) :: (n3, .int i3) :: (n2, .int i2) :: (n1, .int i1) :: ρ)) (h1 : CanStore cx n1) (h2 : CanStore cx n2) (h3 : CanStore cx n3) (h4 : CanStore cx n4) (hk : cx.env.kindOf t = some .local) (hm : cx.mu.contains t = true) (hpin : ∀ p, cx.pin = some p → p.1 ≠ t)
    (hs : swapsWithSole [.Tuple [.Name n1 q1, .Name n2 q2, .Name n3 q3, .Name n4 q4, .Name t qt] k tp] (.Tuple [.Constant (.int i1) c1 r1, .Constant (.int i2) c2 r2, .Constant (.int i3) c3 r3, .Constant (.int i4) c4 r4, .Dict [] [] dp] kk vp) p.line cx.env = pure false := by rfl)
    (hw : swappedStores [.Tuple [.Name n1 q1, .Name n2 q2, .Name n3 q3, .Name n4 q4, .Name t qt] k tp] (.Tuple [.Constant (.int i1) c1 r1, .Constant (.int i2) c2 r2, .Constant (.int i3) c3 r3, .Constant (.int i4) c4 r4, .Dict [] [] dp] kk vp) cx.env = pure none := by rfl) :
    WS prog w B cx (.Assign [.Tuple [.Name n1 q1, .Name n2 q2, .Name n3 q3, .Name n4 q4, .Name t qt] k tp] (.Tuple [.Constant (.int i1) c1 r1, .Constant (.int i2) c2 r2, .Constant (.int i3) c3 r3, .Constant (.int i4) c4 r4, .Dict [] [] dp] kk vp) p) Φ ρ := fun O G s Q E S tk R => by
  refine Assign_Tuple (Tuple_ ?_) hs hw
  rw [starEach_plain rfl]
  refine spliced_cons (wpAny_Constant_int (k := c1) (pos := r1) ?_)
  refine spliced_cons (wpAny_Constant_int (k := c2) (pos := r2) ?_)
  refine spliced_cons (wpAny_Constant_int (k := c3) (pos := r3) ?_)
  refine spliced_cons (wpAny_Constant_int (k := c4) (pos := r4) ?_)
  refine spliced_cons ?_
  -- the dict
  have hd : WN prog w B cx (.Dict [] [] dp) (fun d => d = .dic []) ρ := WN.dict rfl
  refine hd O G { s with toks := s.toks + 1 + 1 + 1 + 1 } _ E S (Nat.lt_of_lt_of_le tk (by show s.toks ≤ s.toks + 1 + 1 + 1 + 1; omega)) fun v a d h₁ tk₁ G₁ k₁ M₁ n₁ e₁ t₁ z₁ => ?_
  subst z₁
  refine spliced_nil ?_
  have S₁ := S.grow k₁
  refine wpAny_newObj_type (show wpAny (model prog w) cx.A (PySem.assign (.Tuple [.Name n1 q1, .Name n2 q2, .Name n3 q3, .Name n4 q4, .Name t qt] k tp) cx.env (.ref h₁.objs.size)) _ E { s with heap := h₁.push (tupO [.int i1 s.toks, .int i2 (s.toks + 1), .int i3 (s.toks + 1 + 1), .int i4 (s.toks + 1 + 1 + 1), v] 0), toks := tk₁ } from ?_) (by show 5 ≤ sizeLine; rw [sizeLine_eq]; exact Nat.le_of_ble_eq_true rfl)
  have g₂ := Grow.heap k₁.gh (h' := h₁.push (tupO [.int i1 s.toks, .int i2 (s.toks + 1), .int i3 (s.toks + 1 + 1), .int i4 (s.toks + 1 + 1 + 1), v] 0)) fun b o e => Heap.get?_push_of_some _ e
  have T : IsTup (h₁.push (tupO [.int i1 s.toks, .int i2 (s.toks + 1), .int i3 (s.toks + 1 + 1), .int i4 (s.toks + 1 + 1 + 1), v] 0)) h₁.objs.size [.int i1 s.toks, .int i2 (s.toks + 1), .int i3 (s.toks + 1 + 1), .int i4 (s.toks + 1 + 1 + 1), v].toArray := tupO_isTup (Heap.get?_push_size _ rfl)
  refine assign_Tuple_tuple (s := { s with heap := h₁.push (tupO [.int i1 s.toks, .int i2 (s.toks + 1), .int i3 (s.toks + 1 + 1), .int i4 (s.toks + 1 + 1 + 1), v] 0), toks := tk₁ }) cx.handled T rfl rfl fun h₃ he₃ => ?_
  have g₃ := Grow.heap g₂.gh (h' := h₃) fun b o e => he₃ b o (Nat.ne_of_lt (Heap.lt_size e)) e
  have gg := (k₁.trans g₂).trans g₃
  have S₃ := (S₁.grow g₂).grow g₃
  show wpAny _ _ (assignInOrder [PySem.assign (.Name n1 q1) cx.env, PySem.assign (.Name n2 q2) cx.env, PySem.assign (.Name n3 q3) cx.env, PySem.assign (.Name n4 q4) cx.env, PySem.assign (.Name t qt) cx.env] [.int i1 s.toks, .int i2 (s.toks + 1), .int i3 (s.toks + 1 + 1), .int i4 (s.toks + 1 + 1 + 1), v]) _ _ _
  refine assignInOrder_cons (wpAny_assign_Name (storeName_plain (s := { s with heap := h₃, toks := tk₁ }) S₃ (.int _ _) h1.1 h1.2 fun h₄ tk₄ k₄ S₄ t₄ => ?_))
  refine assignInOrder_cons (wpAny_assign_Name (storeName_plain (s := { s with heap := h₄, toks := tk₄ }) S₄ (.int _ _) h2.1 h2.2 fun h₅ tk₅ k₅ S₅ t₅ => ?_))
  refine assignInOrder_cons (wpAny_assign_Name (storeName_plain (s := { s with heap := h₅, toks := tk₅ }) S₅ (.int _ _) h3.1 h3.2 fun h₆ tk₆ k₆ S₆ t₆ => ?_))
  refine assignInOrder_cons (wpAny_assign_Name (storeName_plain (s := { s with heap := h₆, toks := tk₆ }) S₆ (.int _ _) h4.1 h4.2 fun h₇ tk₇ k₇ S₇ t₇ => ?_))
  have st := (((Step.grow S gg).trans k₄).trans k₅).trans (k₆.trans k₇)
  have haO : a ∉ O := fun q => by
    obtain ⟨_, o, e⟩ := S.own a q
    rw [e₁] at e; cases e
  obtain ⟨oa, ha₁⟩ := M₁.exists
  have ha₃ := g₃.hh _ _ (g₂.hh _ _ ha₁)
  have ha₇ := k₇.keep a oa haO (k₆.keep a oa haO (k₅.keep a oa haO (k₄.keep a oa haO ha₃)))
  have M₇ := M₁.grow (G' := G₁) (h' := h₇) (GLe.refl _) (ha₇.trans ha₁.symm)
  obtain ⟨m, μ, hns, hnd, hin, hv⟩ := S₇.fr
  refine assignInOrder_cons (wpAny_assign_Name (wpAny_storeName_local (s := { s with heap := h₇, toks := tk₇ }) hk hns (fun h₈ hn₈ hsb => assignInOrder_nil ?_) (storePlain cx.kind)))
  have S₈ : St prog w B cx (a :: O) G₁ h₈ ((t, .dic []) :: (n4, .int i4) :: (n3, .int i3) :: (n2, .int i2) :: (n1, .int i1) :: ρ) := by
    obtain ⟨o, es, ep, z1, z2, z3, z4⟩ := hns
    refine S₇.storeNew hk hm hpin haO n₁ M₇ (fun m₀ hn₀ => ?_) hsb
    obtain ⟨o', es', ep', y1, y2, y3, y4⟩ := hn₀
    rw [z1] at y1; cases y1; rw [z2] at y2; cases y2
    have : m₀ = m := funext fun n => (y4 n).symm.trans (z4 n)
    subst this
    exact ⟨_, hn₈, fun y => rfl⟩
  have hLO := hin _ (List.mem_cons_self ..)
  refine R .next .next _ h₈ _ (a :: O) G₁ ⟨fun b q => (S₈.own b (List.mem_cons_of_mem _ q)).2, fun b q => ?_, fun b q => (S₈.own b q).2, st.gg, fun b o nb e => ?_, st.new⟩ S₈ trivial ?_ y
  · rcases List.mem_cons.mp q with rfl | q
    · exact .inr e₁
    · exact .inl q
  · exact (hsb.2 b fun q => nb (q ▸ hLO)).trans (st.keep b o nb e)
  · have : s.toks + 1 + 1 + 1 + 1 ≤ tk₁ := t₁
    show s.toks ≤ tk₇ + 1
    have t4 : tk₁ ≤ tk₄ := t₄
    have t5 : tk₄ ≤ tk₅ := t₅
    have t6 : tk₅ ≤ tk₆ := t₆
    have t7 : tk₆ ≤ tk₇ := t₇
    omega
end
end

section

/-- one level deeper -/
noncomputable def Cx.deep (cx : Cx) (env : PySem.Env) (mu : List Str) (hf : 1 ≤ cx.fuel) (hk : env.scope.kind = .function) (hg : env.globals = mainGlobals) (hb : env.builtins = builtinsNs) : Cx :=
  { A := cx.A.deeper env, env := env, mu := mu, own := false, pin := none, pinMu := (fun _ q => nomatch q), fuel := cx.fuel - 1, handled := cx.handled,
    depth := by have := cx.depth; show cx.A.depth + 1 + (cx.fuel - 1) < _; omega
    units := by have := cx.units; show cx.A.units + 3 + 20 * (cx.fuel - 1) < _; omega
    kind := hk, globals := hg, builtins := hb }

section
variable {prog : Program} {w : World} {K : Frag} {B : Base K} {cx : Cx} {O : List Addr} {G G' : GMap} {h h' : Heap} {ρ : List (Str × D)} {Ψ : D → Prop}

theorem zip_lookup : ∀ {names : List Str} {vs : List Value} {ds : List D}, RepL prog w G vs ds → ∀ {x : Str} {d : D}, (names.zip ds).lookup x = some d → ∃ v, (names.zip vs).lookup x = some v ∧ Rep prog w G v d
  | [], _, _, _, _, _, e => by cases e
  | _ :: _, _, _, .nil, _, _, e => by cases e
  | n :: ns, _, _, .cons (v := v) r l, x, d, e => by
    rw [List.zip_cons_cons, List.lookup_cons] at e ⊢
    cases q : x == n with
    | true => rw [q] at e; cases e; exact ⟨v, rfl, r⟩
    | false => rw [q] at e; exact zip_lookup l e

theorem lookup_rev {α : Type} {x : Str} {v : α} : ∀ {l : List (Str × α)}, (l.map (·.1)).Nodup → l.lookup x = some v → l.reverse.lookup x = some v := by
  have key : ∀ {l : List (Str × α)}, (l.map (·.1)).Nodup → (x, v) ∈ l → l.lookup x = some v := by
    intro l
    induction l with
    | nil => intro _ m; cases m
    | cons p l ih =>
      intro hn m
      rw [List.map_cons] at hn
      obtain ⟨h1, h2⟩ := List.nodup_cons.mp hn
      rcases List.mem_cons.mp m with q | q
      · rw [← q, List.lookup_cons]; simp
      · rw [List.lookup_cons]
        have : (x == p.1) = false := by
          have : x ≠ p.1 := fun z => h1 (z ▸ List.mem_map.mpr ⟨(x, v), q, rfl⟩)
          simpa using this
        rw [this]; exact ih h2 q
  have mem : ∀ {l : List (Str × α)}, l.lookup x = some v → (x, v) ∈ l := by
    intro l
    induction l with
    | nil => intro e; cases e
    | cons p l ih =>
      intro e
      rw [List.lookup_cons] at e
      cases q : x == p.1 with
      | true => rw [q] at e; cases e; rw [beq_iff_eq.mp q]; exact List.mem_cons_self ..
      | false => rw [q] at e; exact List.mem_cons_of_mem _ (ih e)
  intro l hn e
  refine key ?_ (List.mem_reverse.mpr (mem e))
  rw [List.map_reverse]
  exact (List.pairwise_reverse).mpr (hn.imp fun q => Ne.symm q)

/-- a call that makes a token of its own -/
noncomputable def JC0 (prog : Program) (w : World) {K : Frag} (B : Base K) (cx : Cx) (f : Value) (ds : List D) (Ψ : D → Prop) : Prop :=
  ∀ G (s : Shared) (Q : Value → Shared → Prop) (E : Value → Shared → Prop) (vs : List Value), (∀ a o, B.h.get? a = some o → G a = some o) → (∀ a o, G a = some o → s.heap.get? a = some o) → RepL prog w G vs ds →
    (∀ v d h' tk' G', Grow G s.heap G' h' → Rep prog w G' v d → s.toks + 1 ≤ tk' → Ψ d → Q v { s with heap := h', toks := tk' }) → wpAny (model prog w) cx.A (call f vs []) Q E s
theorem JC0.jc {f : Value} {ds : List D} (x : JC0 prog w B cx f ds Ψ) : JC prog w B cx f ds Ψ := fun G s Q E vs o r R => x G s Q E vs o.base o.keep r fun v d h' tk' G' g p t z => R v d h' tk' G' g p (Nat.le_trans (Nat.le_succ _) t) z

theorem JC0.fn {name qual : Str} {params : Arguments} {body : List Stmt} {scope : Scope} {dV kV doc pm cdv ct oc : Value} {an od : Option Addr} {osl : Array (Option Value)} {f : Addr} {ds : List D} (names : List Str) (mu : List Str)
    (hfu : 1 ≤ cx.fuel) (ho : K.lookup f = some ⟨oc, od, .func (fnOf name qual params body scope dV kV doc pm an cdv ct), osl⟩)
    (hn : names.Nodup) (hl : names.length = ds.length)
    (hb : ∀ vs : List Value, vs.length = names.length → bindArgs (fnOf name qual params body scope dV kV doc pm an cdv ct) ⟨vs, []⟩ = pure (names.zip vs))
    (hcd : codeIn K cdv qual = true) (hloc : ∀ y ∈ names, scope.names.lookup y = some .local)
    (hmu : ∀ y ∈ names, mu.contains y = false)
    (hcell : ∀ x ∈ scope.names, x.2 ≠ .cell) (hk : scope.kind = .function)
    (x : ∀ L, WSs prog w B (cx.deep (envOf qual scope L f cdv) mu hfu hk rfl rfl) body (fun fl _ => ∃ d, fl = .ret d ∧ Ψ d) (names.zip ds))
    (hco : scope.isCoroutine = false := by rfl) (hgen : scope.isGenerator = false := by rfl) (hne : 1 ≤ names.length := by exact Nat.le_of_ble_eq_true rfl) :
    JC0 prog w B cx (.ref f) ds Ψ := fun G s Q E vs ob ok r R => by
  have X : K.In s.heap := B.X.keeps fun b o e => ok b o (ob b o e)
  have hlen : vs.length = names.length := by rw [r.length, hl]
  refine wpAny_call (codeAny_call_def (fd := fnOf name qual params body scope dV kV doc pm an cdv ct) (body := body) (binds := names.zip vs) (Nat.lt_of_le_of_lt (Nat.le_add_right _ _) cx.depth) (X _ _ ho) rfl
    (B.nolim.keeps fun b o' e => ok b o' (ob b o' e)) (codeRec_of X hcd) rfl (.of_eq (hb vs hlen)) hcell (fun y hy => hloc _ (List.of_mem_zip hy).1) (fun h₁ hns hk₁ => ?_) hco hgen hk)
  have hn' : ((names.zip vs).map (·.1)).Nodup := by
    have : (names.zip vs).map (·.1) = names := by
      have := List.map_fst_zip (l₁ := names) (l₂ := vs) (by omega)
      exact this
    rw [this]; exact hn
  have hg : Grow G s.heap G h₁ := Grow.heap ok hk₁
  have hLn := gnone ok (get_size s.heap)
  have S₁ : St prog w B (cx.deep (envOf qual scope s.heap.objs.size f cdv) mu hfu hk rfl rfl) [s.heap.objs.size] G h₁ (names.zip ds) := by
    refine ⟨ob, hg.gh, fun a ha => ?_, fun q => (by cases q), (fun _ q => nomatch q), _, [], hns, List.nodup_cons.mpr ⟨by simp, List.nodup_nil⟩, fun a ha => ha, fun y d e => ?_⟩
    · rw [List.mem_singleton.mp ha]
      obtain ⟨oL, _, _, e, _⟩ := hns
      exact ⟨hLn, oL, e⟩
    · obtain ⟨v, hv, rv⟩ := zip_lookup r e
      have hy : y ∈ names := (List.of_mem_zip (mem_of_lookup e)).1
      exact .loc (hloc y hy) (hmu y hy) (lookup_rev hn' hv) rv
  refine x _ _ G { s with heap := h₁, toks := s.toks + (names.zip vs).length } _ _ S₁ (by show 0 < s.toks + (names.zip vs).length; rw [List.length_zip]; omega) fun fl f' ρ' h₂ tk₂ O₂ G₂ k₂ S₂ p₂ t₂ z₂ => ?_
  obtain ⟨d, rfl, z⟩ := z₂
  cases fl <;> first | exact p₂.elim | skip
  rename_i v
  obtain ⟨Gr, gle, gh, gn, rv⟩ := p₂
  have nin : ∀ a ob, s.heap.get? a = some ob → a ∉ [s.heap.objs.size] := fun a ob e q => by
    rw [List.mem_singleton.mp q, get_size] at e; cases e
  refine R v d h₂ tk₂ Gr ⟨(k₂.gg).trans gle, gh, fun a ob e => k₂.keep a ob (nin a ob e) (hk₁ a ob e), fun a ob e ng => ?_⟩ rv (by have t₃ : s.toks + (names.zip vs).length ≤ tk₂ := t₂; rw [List.length_zip] at t₃; omega) z
  cases q : Gr a with
  | none => rfl
  | some ob' =>
    rcases gn a ob' q with y | y
    · rw [k₂.new a ob (nin a ob e) (hk₁ a ob e) ng] at y; cases y
    · rcases k₂.on a y with y | y
      · exact (nin a ob e y).elim
      · rw [hk₁ a ob e] at y; cases y

theorem JC.fn {name qual : Str} {params : Arguments} {body : List Stmt} {scope : Scope} {dV kV doc pm cdv ct oc : Value} {an od : Option Addr} {osl : Array (Option Value)} {f : Addr} {ds : List D} (names : List Str) (mu : List Str)
    (hfu : 1 ≤ cx.fuel) (ho : K.lookup f = some ⟨oc, od, .func (fnOf name qual params body scope dV kV doc pm an cdv ct), osl⟩)
    (hn : names.Nodup) (hl : names.length = ds.length)
    (hb : ∀ vs : List Value, vs.length = names.length → bindArgs (fnOf name qual params body scope dV kV doc pm an cdv ct) ⟨vs, []⟩ = pure (names.zip vs))
    (hcd : codeIn K cdv qual = true) (hloc : ∀ y ∈ names, scope.names.lookup y = some .local)
    (hmu : ∀ y ∈ names, mu.contains y = false)
    (hcell : ∀ x ∈ scope.names, x.2 ≠ .cell) (hk : scope.kind = .function)
    (x : ∀ L, WSs prog w B (cx.deep (envOf qual scope L f cdv) mu hfu hk rfl rfl) body (fun fl _ => ∃ d, fl = .ret d ∧ Ψ d) (names.zip ds))
    (hco : scope.isCoroutine = false := by rfl) (hgen : scope.isGenerator = false := by rfl) (hne : 1 ≤ names.length := by exact Nat.le_of_ble_eq_true rfl) :
    JC prog w B cx (.ref f) ds Ψ :=
  (JC0.fn names mu hfu ho hn hl hb hcd hloc hmu hcell hk x hco hgen hne).jc

/-- the environment, cut down -/
theorem WSs.weaken {ρ' : List (Str × D)} {sts : List Stmt} {Φ : Fl → List (Str × D) → Prop} (k : ∀ x d, ρ'.lookup x = some d → ρ.lookup x = some d) (x : WSs prog w B cx sts Φ ρ') : WSs prog w B cx sts Φ ρ :=
  fun O G s Q E S tk R => x O G s Q E (S.weaken k) tk R
theorem WS.weaken {ρ' : List (Str × D)} {st : Stmt} {Φ : Fl → List (Str × D) → Prop} (k : ∀ x d, ρ'.lookup x = some d → ρ.lookup x = some d) (x : WS prog w B cx st Φ ρ') : WS prog w B cx st Φ ρ :=
  fun O G s Q E S tk R => x O G s Q E (S.weaken k) tk R

noncomputable def strSigns (x : Str) : List D := x.cps.toList.map fun c => .str ⟨#[c]⟩
theorem JI.str {y x : Str} {p : Pos} {Ψ : List D → Prop} (z : Ψ (strSigns y)) : JI prog w B cx (.Name x p) (.str y) Ψ := fun G s Q E u o r R => by
  cases r with
  | str _ t =>
    refine wpAny_pyIter_strU ?_
    have g := Grow.heap o.keep (h' := s.heap.push { cls := .type (strIterType y), data := .fields #[.str y t, .int 0 0] }) fun a o e => Heap.get?_push_of_some _ e
    have W : Walks prog w cx.A s.heap.objs.size [s.heap.objs.size] [s.heap.objs.size] y.cps.size (SignAt y) (fun i h => h.IsStrIter s.heap.objs.size (strIterType y) y t i) := by
      unfold strIterType
      split
      · exact Walks.strAscii cx.handled _ y t
      · exact Walks.strWide cx.handled _ y t
    have hP : ∀ i v d, SignAt y i v → (strSigns y)[i]? = some d → ∀ G, Rep prog w G v d := fun i v d hs hd G => by
      obtain ⟨c, u, hc, rfl⟩ := hs
      unfold strSigns at hd
      rw [List.getElem?_map, Array.getElem?_toList, hc] at hd
      cases hd
      exact .str _ _
    exact R _ (strSigns y) _ _ s.toks G g (get_size _) (gnone o.keep (get_size _)) (Its.walks W (by unfold strSigns; simp) (fun i h st => by obtain ⟨o, e, _, hd⟩ := st; exact ⟨o, _, e, hd⟩) hP) ⟨_, Heap.get?_push_size _ rfl, rfl, rfl⟩ (Nat.le_refl _) z

noncomputable def rangeD (a b : Int) : List D := (List.range (b - a).toNat).map fun (i : Nat) => .int (a + i)

theorem rangeIts {G : GMap} {s : Shared} {Q : Value → Shared → Prop} {E : Value → Shared → Prop} {x : Str} {p : Pos} {a b : Int} {r : Addr} {t u v : Tok} (hk : ∀ a o, G a = some o → s.heap.get? a = some o) (hr : IsRange s.heap r a b 1 t u v) (ha : -1000000 ≤ a) (ha' : a ≤ 1000000) (hb : -1000000 ≤ b) (hb' : b ≤ 1000000)
    (R : ∀ I Sg h', Grow G s.heap G h' → s.heap.get? I = none → G I = none → Its prog w cx.A I (.Name x p) (rangeD a b) Sg → Sg 0 G h' → Q (.ref I) { s with heap := h' }) : wpAny (model prog w) cx.A (pyIter (.ref r)) Q E s := by
  refine wpAny_pyIter_range hr (small_one (by omega) (by omega) (by omega) (by omega)) ?_
  have g := Grow.heap hk (h' := s.heap.push { cls := .type "range_iterator", data := .fields #[rawInt a, rawInt (Builtin.Range.rangeSize a b 1), rawInt 1] }) fun a o e => Heap.get?_push_of_some _ e
  have hsz : (rangeD a b).length = (b - a).toNat := by unfold rangeD; simp
  refine R _ _ _ g (get_size _) (gnone hk (get_size _)) (Its.walks (Walks.range cx.handled _ a 1 (b - a).toNat) hsz.symm (fun i h st => ⟨_, _, st, rfl⟩) fun i v d hp hd G => ?_) ?_
  · obtain ⟨t, rfl⟩ := hp
    unfold rangeD at hd
    rw [List.getElem?_map] at hd
    cases q : (List.range (b - a).toNat)[i]? with
    | none => rw [q] at hd; cases hd
    | some j =>
      rw [q] at hd; cases hd
      have : j = i := by
        have := List.getElem?_eq_some_iff.mp q
        obtain ⟨h1, h2⟩ := this
        rw [List.getElem_range] at h2; exact h2.symm
      rw [this, Int.mul_one]; exact .int _ _
  · show IsRangeIter _ _ _ _ _
    have := Heap.get?_push_size s.heap (o := { cls := .type "range_iterator", data := .fields #[rawInt a, rawInt (Builtin.Range.rangeSize a b 1), rawInt 1] }) rfl
    show (Heap.push _ _).get? _ = _
    rw [this, rangeSize_nat]
    simp

theorem WI.range1 {e : Expr} {x : Str} {p p1 p2 : Pos} {Ψ : List D → Prop} (y : WE prog w B cx e (fun d => ∃ n : Int, d = .int n ∧ -1000000 ≤ n ∧ n ≤ 1000000 ∧ Ψ (rangeD 0 n)) ρ) (hx : cx.env.kindOf "range" = some .globalImplicit) (hn : nsIn K mainGlobals "range" = some Option.none) (hs : noStar e = true := by rfl) :
    WI prog w B cx (.Call (.Name "range" p1) [e] [] p2) (.Name x p) Ψ ρ := fun O G s Q E S tk R => by
  show wpAny _ _ (do callWith p2 (← eval (.Name "range" p1) cx.env) [] (backTo p2 (starEach [e] cx.env)) []) _ E s
  refine wpAny_bind (eval_builtin S hx hn (show bootBuiltins "range" = some (.type "range") by kernel_rfl) (by decide) rfl ?_)
  have A : WA prog w B cx [e] (fun ds => ∃ n : Int, ds = [.int n] ∧ -1000000 ≤ n ∧ n ≤ 1000000 ∧ Ψ (rangeD 0 n)) ρ := by
    refine WA.of (WL.cons (fun O G s Q E S tk R => y O G s Q E S tk fun v d h' tk' G' k p t z => R v d h' tk' G' k p t ?_) fun env => starEach_cons hs env) (by rw [List.all_cons, hs]; rfl)
    obtain ⟨n, rfl, h⟩ := z
    exact WL.nil ⟨n, rfl, h⟩
  refine callWith_at Keeps.type A S tk fun vs ds h' tk' G' k r t z => ?_
  obtain ⟨n, rfl, h1, h2, z⟩ := z
  cases r with | cons r1 r => cases r with | nil => cases r1 with | int _ t1 =>
  refine call_range_1 ?_
  have g := Grow.heap k.gh (h' := h'.push { cls := .type "range", data := .fields #[.int 0 tk', .int n t1, .int 1 (tk' + 1)] }) fun a o e => Heap.get?_push_of_some _ e
  refine rangeIts (x := x) (p := p) (G := G') (a := 0) (b := n) (t := tk') (u := t1) (v := tk' + 1) g.gh (Heap.get?_push_size _ rfl) (by omega) (by omega) h1 h2 fun I Sg h₂ k₂ e₂ n₂ its s₂ => ?_
  exact R I _ Sg h₂ _ G' ((k.trans g).trans k₂) (new_trans (k.trans g).hh e₂) n₂ its s₂ (Nat.le_trans t (Nat.le_add_right _ 2)) z

theorem WI.range2 {e1 e2 : Expr} {x : Str} {p p1 p2 : Pos} {Ψ : List D → Prop} (y : WE prog w B cx e1 (fun a => WE prog w B cx e2 (fun b => ∃ m n : Int, a = .int m ∧ b = .int n ∧ -1000000 ≤ m ∧ m ≤ 1000000 ∧ -1000000 ≤ n ∧ n ≤ 1000000 ∧ Ψ (rangeD m n)) ρ) ρ) (hx : cx.env.kindOf "range" = some .globalImplicit) (hn : nsIn K mainGlobals "range" = some Option.none) (hs1 : noStar e1 = true := by rfl) (hs2 : noStar e2 = true := by rfl) :
    WI prog w B cx (.Call (.Name "range" p1) [e1, e2] [] p2) (.Name x p) Ψ ρ := fun O G s Q E S tk R => by
  show wpAny _ _ (do callWith p2 (← eval (.Name "range" p1) cx.env) [] (backTo p2 (starEach [e1, e2] cx.env)) []) _ E s
  refine wpAny_bind (eval_builtin S hx hn (show bootBuiltins "range" = some (.type "range") by kernel_rfl) (by decide) rfl ?_)
  have A : WA prog w B cx [e1, e2] (fun ds => ∃ m n : Int, ds = [.int m, .int n] ∧ -1000000 ≤ m ∧ m ≤ 1000000 ∧ -1000000 ≤ n ∧ n ≤ 1000000 ∧ Ψ (rangeD m n)) ρ := by
    refine WA.of (WL.cons (fun O G s Q E S tk R => y O G s Q E S tk fun v d h' tk' G' k p t z => R v d h' tk' G' k p t ?_) fun env => starEach_cons hs1 env) (by rw [List.all_cons, List.all_cons, hs1, hs2]; rfl)
    refine WL.cons (fun O G s Q E S tk R => z O G s Q E S tk fun v d h' tk' G' k p t z => R v d h' tk' G' k p t ?_) fun env => starEach_cons hs2 env
    obtain ⟨m, n, rfl, rfl, h⟩ := z
    exact WL.nil ⟨m, n, rfl, h⟩
  refine callWith_at Keeps.type A S tk fun vs ds h' tk' G' k r t z => ?_
  obtain ⟨m, n, rfl, h1, h2, h3, h4, z⟩ := z
  cases r with | cons r1 r => cases r with | cons r2 r => cases r with | nil => cases r1 with | int _ t1 => cases r2 with | int _ t2 =>
  refine call_range_2 ?_
  have g := Grow.heap k.gh (h' := h'.push { cls := .type "range", data := .fields #[.int m t1, .int n t2, .int 1 tk'] }) fun a o e => Heap.get?_push_of_some _ e
  refine rangeIts (x := x) (p := p) (G := G') (a := m) (b := n) (t := t1) (u := t2) (v := tk') g.gh (Heap.get?_push_size _ rfl) h1 h2 h3 h4 fun I Sg h₂ k₂ e₂ n₂ its s₂ => ?_
  exact R I _ Sg h₂ _ G' ((k.trans g).trans k₂) (new_trans (k.trans g).hh e₂) n₂ its s₂ (Nat.le_trans t (Nat.le_add_right _ 1)) z

theorem RepK.getAt : ∀ {kvs : List (Str × Value)} {ds : List (Str × D)}, RepK prog w G kvs ds → ∀ (i : Nat) {k : Str} {d : D}, ds[i]? = some (k, d) → ∃ v, kvs[i]? = some (k, v) ∧ Rep prog w G v d
  | _, [], _, _, _, _, e => by cases e
  | _, (k', d') :: ds, r₀, i, k, d, e => by
    obtain ⟨v, us, rfl, h, l⟩ := r₀.more
    cases i with
    | zero => cases e; exact ⟨_, rfl, h⟩
    | succ i => exact l.getAt i (by simpa using e)
theorem RepK.getVal {kvs : List (Str × Value)} {ds : List (Str × D)} (l : RepK prog w G kvs ds) (i : Nat) {d : D} (e : (ds.map (·.2))[i]? = some d) : ∃ k v, kvs[i]? = some (k, v) ∧ Rep prog w G v d := by
  rw [List.getElem?_map] at e
  cases q : ds[i]? with
  | none => rw [q] at e; cases e
  | some p =>
    rw [q] at e; cases e
    obtain ⟨v, h1, h2⟩ := l.getAt i (k := p.1) (d := p.2) q
    exact ⟨_, v, h1, h2⟩

theorem Its.values {I d : Addr} {o : Obj} {kvs : List (Str × Value)} {ds : List (Str × D)} {x : Str} {p : Pos} {ep : Nat} {A : Around} (hh : A.handled = none) :
    Its prog w A I (.Name x p) (ds.map (·.2)) (fun i G h => h.IsValIter I d i kvs.length ep ∧ (G d = some o ∧ ∀ h : Heap, h.get? d = some o → h.DictAt (strKind prog w) d kvs ep) ∧ RepK prog w G kvs ds) := by
  refine ⟨fun i G G' h h' st k kI => ⟨?_, ⟨k _ _ st.2.1.1, st.2.1.2⟩, st.2.2.mono k⟩, fun i G h st => ?_, fun i G s Q X E E' d' hd hg hI st R => ?_, fun G s Q E hg st R => ?_, fun i G s Q E st q => ?_⟩
  · obtain ⟨⟨o', e, r⟩, _⟩ := st; exact ⟨o', kI _ e, r⟩
  · obtain ⟨⟨o', e, _, hd⟩, _⟩ := st; exact ⟨o', _, e, hd⟩
  · obtain ⟨hit, ⟨ha, hD⟩, l⟩ := st
    obtain ⟨k, v, hv, r⟩ := l.getVal i hd
    refine wpAny_pyNext_values_item hit (hD _ (hg _ _ ha)) hv fun h' hit' hs => ?_
    show wpAny _ _ (letOwnedTupleGo _ _ _) _ _ _
    rw [noGo]
    have hk' : ∀ b o, b ≠ I → s.heap.get? b = some o → h'.get? b = some o := fun b o nb e => (hs.2 b nb).trans e
    exact wpAny_pure (R v h' s.toks G (GLe.refl _) (fun a o e => hk' a o (fun q => by subst q; rw [hI] at e; cases e) (hg a o e)) hk' (fun _ _ _ e => e) (Nat.le_refl _) r ⟨hit', ⟨ha, hD⟩, l⟩)
  · obtain ⟨hit, ⟨ha, hD⟩, l⟩ := st
    have hlen := l.length
    rw [List.length_map] at hit
    refine wpAny_pyNext_values_end hh hit (hD _ (hg _ _ ha)) (by rw [← hlen]; simp) fun h' he => R h' s.toks (fun b o nb e => he b o nb e) (Nat.le_refl _)
  · exact wpAny_pyIter_valiter st.1 q

theorem entry_itemiter_iter : entryFor table "dict_itemiterator.__iter__" = some Builtin.«dict_keyiterator.__iter__» :=
  entryFor_alias (id' := "dict_keyiterator.__iter__") (by kernel_rfl) rfl (by decide +kernel) (by kernel_rfl)
theorem Its.items {I d : Addr} {o : Obj} {kvs : List (Str × Value)} {ds : List (Str × D)} {elts : List Expr} {kk : Nat} {p : Pos} {ep : Nat} {A : Around} (hh : A.handled = none) :
    Its prog w A I (.Tuple elts kk p) (ds.map fun e => .tup [.str e.1, e.2]) (fun i G h => (∃ ok ov, IsItemIter h I d i kvs.length ep ok ov) ∧ (G d = some o ∧ ∀ h : Heap, h.get? d = some o → h.DictAt (strKind prog w) d kvs ep) ∧ RepK prog w G kvs ds) := by
  refine ⟨fun i G G' h h' st k kI => ⟨?_, ⟨k _ _ st.2.1.1, st.2.1.2⟩, st.2.2.mono k⟩, fun i G h st => ?_, fun i G s Q X E E' d' hd hg hI st R => ?_, fun G s Q E hg st R => ?_, fun i G s Q E st q => ?_⟩
  · obtain ⟨⟨ok, ov, e⟩, _⟩ := st; exact ⟨ok, ov, kI _ e⟩
  · obtain ⟨⟨ok, ov, e⟩, _⟩ := st; exact ⟨_, _, e, rfl⟩
  · obtain ⟨⟨ok, ov, hit⟩, ⟨ha, hD⟩, l⟩ := st
    rw [List.getElem?_map] at hd
    cases q : ds[i]? with
    | none => rw [q] at hd; cases hd
    | some p =>
      rw [q] at hd; cases hd
      obtain ⟨v, hv, r⟩ := l.getAt i (k := p.1) (d := p.2) q
      refine wpAny_pyNext_items_item hit (hD _ (hg _ _ ha)) hv fun key h' hkey hout ht hsz hk => ?_
      show wpAny _ _ (letOwnedTupleGo _ _ _) _ _ _
      refine wpAny_letOwnedTupleGo_items hout fun h'' hin hs => ?_
      have hne : s.heap.objs.size ≠ I := fun z => by
        have : s.heap.get? s.heap.objs.size = _ := z ▸ hit
        rw [get_size] at this; cases this
      have hk' : ∀ b o, b ≠ I → s.heap.get? b = some o → h''.get? b = some o := fun b o nb e => (hs.2 b nb).trans (hk b o nb e)
      have gIn : ∀ a o, G a = some o → a ≠ I := fun a o e q => by subst q; rw [hI] at e; cases e
      obtain ⟨t, rfl⟩ := Value.isStrOf_shape hkey
      have gg : GLe G (G.put s.heap.objs.size (tupO [.str p.1 t, v] 0)) := GMap.put_le (gnone hg (get_size _))
      refine R (.ref s.heap.objs.size) h'' s.toks (G.put s.heap.objs.size (tupO [.str p.1 t, v] 0)) gg (fun a o e => ?_) hk' (fun b o e n => ?_) (Nat.le_refl _) (.tup (GMap.put_self ..) (.cons (.str _ _) (.cons (r.mono gg) .nil))) ⟨⟨_, _, hin⟩, ⟨gg _ _ ha, hD⟩, l.mono gg⟩
      · by_cases z : a = s.heap.objs.size
        · subst z; rw [GMap.put_self] at e; cases e; exact (hs.2 _ hne).trans ht
        · rw [GMap.put_ne z] at e; exact hk' a o (gIn a o e) (hg a o e)
      · by_cases z : b = s.heap.objs.size
        · subst z; rw [get_size] at e; cases e
        · rw [GMap.put_ne z]; exact n
  · obtain ⟨⟨ok, ov, hit⟩, ⟨ha, hD⟩, l⟩ := st
    have hlen := l.length
    rw [List.length_map] at hit
    refine wpAny_pyNext_items_end hh hit (hD _ (hg _ _ ha)) (by rw [← hlen]; simp) fun h' he => R h' s.toks (fun b o nb e => he b o nb e) (Nat.le_refl _)
  · obtain ⟨⟨ok, ov, hit⟩, _⟩ := st
    have hT : s.TypeIs (.ref I) "dict_itemiterator" := ⟨_, hit, rfl⟩
    refine wpAny_pyIter_slot hT F.slot_dict_itemiterator_iter (wpAny_call_entry F.slot_dict_itemiterator_iter hT entry_itemiter_iter ?_ (F.args_dict_itemiterator_iter_1 _))
    show wpAny _ _ (ret (.ref I)) _ _ s
    exact wpAny_pure ⟨_, rfl, "dict_itemiterator", _, hT, F.slot_dict_itemiterator_next.lookup, q⟩

/-- a frozen dict's values, items -/
theorem WI.values {xe : Expr} {x : Str} {p ap pos : Pos} {Ψ : List D → Prop} {pl : Sem Bool} (y : WE prog w B cx xe (fun d => ∃ ds, d = .dic ds ∧ Ψ (ds.map (·.2))) ρ)
    (he : eval (.Call (.Attribute xe "values" ap) [] [] pos) cx.env = (do let ov ← eval xe cx.env; standAt ap.atName; let (f, first) ← holding [ov] (getMethod ov "values" pl); callWith pos f first (backTo pos (starEach [] cx.env)) []) := by rfl) :
    WI prog w B cx (.Call (.Attribute xe "values" ap) [] [] pos) (.Name x p) Ψ ρ := fun O G s Q E S tk R => by
  refine PyProof.Rows.MethodCall_ (y O G s _ E S tk fun v d h₁ t₁ G₁ k₁ p₁ u₁ z₁ => ?_) he
  obtain ⟨ds, rfl, z⟩ := z₁
  cases p₁ with
  | dic ns e i l =>
    rename_i a o kvs
    have hd : h₁.DictOf (strKind prog w) a kvs := Heap.dictOf_iff.mpr ⟨o, k₁.gh _ _ e, i⟩
    obtain ⟨ep, hA⟩ := hd.dictAt
    have hDD : ∀ h : Heap, h.get? a = some o → h.DictAt (strKind prog w) a kvs ep := fun h e' => by
      obtain ⟨o', es, ho, r⟩ := hA
      rw [k₁.gh _ _ e] at ho; cases ho
      exact ⟨o, es, e', r⟩
    refine getMethod_builtin (T := "dict") (s := { s with heap := h₁, toks := t₁ }) hd.typeIs PySem.F.plainAttrs_dict PySem.F.slot_dict_values (by show builtinType _ = _; rw [builtinType_eq_fast]; kernel_rfl) (fun b q => ?_) ?_
    · cases q
      obtain ⟨es, ep', ex, _⟩ := i
      exact ⟨o, k₁.gh _ _ e, ex.2.1⟩
    · refine callWith_at Keeps.builtin (WA.nil (Φ := fun ds => ds = []) rfl) (s := { s with heap := h₁, toks := t₁ }) (S.grow k₁) (Nat.lt_of_lt_of_le tk u₁) fun vs ds' h₂ t₂ G₂ k₂ p₂ u₂ z₂ => ?_
      subst z₂
      cases p₂
      have hd₂ : h₂.DictOf (strKind prog w) a kvs := hd.keep k₂.hh
      refine call_meetsIn PySem.F.slot_dict_values (s := { s with heap := h₂, toks := t₂ }) hd₂.typeIs PySem.F.entry_dict_values (PySem.F.args_dict_values_1 _) (meets_dict_values (strKind prog w) a ns) ⟨⟨kvs, hd₂⟩, ?_⟩
      have g₃ := Grow.heap k₂.gh (h' := h₂.push { cls := .type "dict_values", data := .fields #[.ref a] }) fun b o e => Heap.get?_push_of_some _ e
      refine wpAny_pyIter_values (s := { s with heap := h₂.push { cls := .type "dict_values", data := .fields #[.ref a] }, toks := t₂ }) ⟨_, Heap.get?_push_size _ rfl, rfl, rfl⟩ (hDD _ (g₃.gh _ _ (k₂.gg _ _ e))) ?_
      have g₄ := Grow.heap g₃.gh (h' := (h₂.push { cls := .type "dict_values", data := .fields #[.ref a] }).push { cls := .type "dict_valueiterator", data := .fields #[.ref a, .int 0 0, .int kvs.length 0, .int ep 0] }) fun b o e => Heap.get?_push_of_some _ e
      have kk := ((k₁.trans k₂).trans g₃)
      refine R _ (ds.map (·.2)) _ _ t₂ G₂ (kk.trans g₄) (new_trans kk.hh (get_size _)) (gnone g₃.gh (get_size _)) (Its.values cx.handled) ⟨⟨_, Heap.get?_push_size _ rfl, rfl, rfl⟩, ⟨k₂.gg _ _ e, hDD⟩, l.mono k₂.gg⟩ (Nat.le_trans u₁ u₂) z
theorem WI.items {xe : Expr} {elts : List Expr} {kk : Nat} {p ap pos : Pos} {Ψ : List D → Prop} {pl : Sem Bool} (y : WE prog w B cx xe (fun d => ∃ ds, d = .dic ds ∧ Ψ (ds.map fun e => .tup [.str e.1, e.2])) ρ)
    (he : eval (.Call (.Attribute xe "items" ap) [] [] pos) cx.env = (do let ov ← eval xe cx.env; standAt ap.atName; let (f, first) ← holding [ov] (getMethod ov "items" pl); callWith pos f first (backTo pos (starEach [] cx.env)) []) := by rfl) :
    WI prog w B cx (.Call (.Attribute xe "items" ap) [] [] pos) (.Tuple elts kk p) Ψ ρ := fun O G s Q E S tk R => by
  refine PyProof.Rows.MethodCall_ (y O G s _ E S tk fun v d h₁ t₁ G₁ k₁ p₁ u₁ z₁ => ?_) he
  obtain ⟨ds, rfl, z⟩ := z₁
  cases p₁ with
  | dic ns e i l =>
    rename_i a o kvs
    have hd : h₁.DictOf (strKind prog w) a kvs := Heap.dictOf_iff.mpr ⟨o, k₁.gh _ _ e, i⟩
    obtain ⟨ep, hA⟩ := hd.dictAt
    have hDD : ∀ h : Heap, h.get? a = some o → h.DictAt (strKind prog w) a kvs ep := fun h e' => by
      obtain ⟨o', es, ho, r⟩ := hA
      rw [k₁.gh _ _ e] at ho; cases ho
      exact ⟨o, es, e', r⟩
    refine getMethod_builtin (T := "dict") (s := { s with heap := h₁, toks := t₁ }) hd.typeIs PySem.F.plainAttrs_dict PySem.F.slot_dict_items (by show builtinType _ = _; rw [builtinType_eq_fast]; kernel_rfl) (fun b q => ?_) ?_
    · cases q
      obtain ⟨es, ep', ex, _⟩ := i
      exact ⟨o, k₁.gh _ _ e, ex.2.1⟩
    · refine callWith_at Keeps.builtin (WA.nil (Φ := fun ds => ds = []) rfl) (s := { s with heap := h₁, toks := t₁ }) (S.grow k₁) (Nat.lt_of_lt_of_le tk u₁) fun vs ds' h₂ t₂ G₂ k₂ p₂ u₂ z₂ => ?_
      subst z₂
      cases p₂
      have hd₂ : h₂.DictOf (strKind prog w) a kvs := hd.keep k₂.hh
      refine call_meetsIn PySem.F.slot_dict_items (s := { s with heap := h₂, toks := t₂ }) hd₂.typeIs PySem.F.entry_dict_items (PySem.F.args_dict_items_1 _) (meets_dict_items (strKind prog w) a ns) ⟨⟨kvs, hd₂⟩, ?_⟩
      have g₃ := Grow.heap k₂.gh (h' := h₂.push { cls := .type "dict_items", data := .fields #[.ref a] }) fun b o e => Heap.get?_push_of_some _ e
      refine wpAny_pyIter_items (s := { s with heap := h₂.push { cls := .type "dict_items", data := .fields #[.ref a] }, toks := t₂ }) ⟨_, Heap.get?_push_size _ rfl, rfl, rfl⟩ (hDD _ (g₃.gh _ _ (k₂.gg _ _ e))) ?_
      have g₄ := Grow.heap g₃.gh (h' := (h₂.push { cls := .type "dict_items", data := .fields #[.ref a] }).push { cls := .type "dict_itemiterator", data := .fields #[.none, .bool false, .ref a, .int 0 0, .int kvs.length 0, .int ep 0, .none, .none] }) fun b o e => Heap.get?_push_of_some _ e
      have kk := ((k₁.trans k₂).trans g₃)
      refine R _ (ds.map _) _ _ t₂ G₂ (kk.trans g₄) (new_trans kk.hh (get_size _)) (gnone g₃.gh (get_size _)) (Its.items cx.handled) ⟨⟨_, _, Heap.get?_push_size _ rfl⟩, ⟨k₂.gg _ _ e, hDD⟩, l.mono k₂.gg⟩ (Nat.le_trans u₁ u₂) z
end
end

section
section
variable {prog : Program} {w : World} {K : Frag} {B : Base K} {cx : Cx} {O : List Addr} {G G' : GMap} {h h' : Heap} {ρ : List (Str × D)} {Ψ : D → Prop}

/-- a slice's part -/
noncomputable def WP (prog : Program) (w : World) {K : Frag} (B : Base K) (cx : Cx) (e : Option Expr) (Ψ : Option Int → Prop) (ρ : List (Str × D)) : Prop :=
  ∀ O G (s : Shared) (Q : Value → Shared → Prop) (E : Value → Shared → Prop), St prog w B cx O G s.heap ρ → 0 < s.toks →
    (∀ v (i : Option (Int × Tok)) h' tk' G', Grow G s.heap G' h' → v = partValue i → s.toks ≤ tk' → Ψ (i.map (·.1)) → Q v { s with heap := h', toks := tk' }) → wpAny (model prog w) cx.A (evalPart e cx.env) Q E s
theorem WP.none {Ψ : Option Int → Prop} (z : Ψ Option.none) : WP prog w B cx Option.none Ψ ρ := fun O G s Q E S tk R =>
  wpAny_evalPart_none (R _ Option.none s.heap s.toks G (Grow.refl S.keep) rfl (Nat.le_refl _) z)
theorem WP.some {e : Expr} {Ψ : Option Int → Prop} (x : WE prog w B cx e (fun d => ∃ i : Int, d = .int i ∧ Ψ (Option.some i)) ρ) : WP prog w B cx (Option.some e) Ψ ρ := fun O G s Q E S tk R =>
  wpAny_evalPart_some (x O G s _ E S tk fun v d h' tk' G' k p t z => by
    obtain ⟨i, rfl, z⟩ := z
    cases p with | int _ u => exact R _ (Option.some (i, u)) h' tk' G' k rfl t z)

theorem isPart_of (i : Option (Int × Tok)) : IsPart (partValue i) (i.map (·.1)) := by
  cases i with
  | none => first | exact rfl | exact .none | trivial | constructor
  | some p => first | exact ⟨_, rfl⟩ | exact .some _ _ | trivial | constructor

noncomputable def cut (ds : List D) (lo hi : Option Int) : List D := (ds.drop (lo.elim 0 (clipAt ds.length))).take (hi.elim ds.length (clipAt ds.length) - lo.elim 0 (clipAt ds.length))

theorem WE.sliceL {value : Expr} {lo hi : Option Expr} {p pos : Pos} (x : WV prog w B cx value (fun a => ∃ ds, a = .lst ds ∧ ds.length ≤ 1000000 ∧ WP prog w B cx lo (fun l => WP prog w B cx hi (fun u => Ψ (.lst (cut ds l u))) ρ) ρ) ρ)
    (ht : ∀ o r, letTemporaryGo value o r = pure () := by intro _ _; rfl) : WE prog w B cx (.Subscript value (.Slice lo hi Option.none p) pos) Ψ ρ := fun O G s Q E S tk R => by
  refine wpAny_Subscript_list_slice ?_ ht
  refine x O G s _ E S tk fun v a h₁ t₁ G₁ k₁ p₁ u₁ z₁ => ?_
  obtain ⟨ds, rfl, hz, z⟩ := z₁
  refine z O G₁ _ _ E (S.grow k₁) (Nat.lt_of_lt_of_le tk u₁) fun vl l h₂ t₂ G₂ k₂ e₂ u₂ z₂ => ?_
  refine z₂ O G₂ _ _ E ((S.grow k₁).grow k₂) (Nat.lt_of_lt_of_le tk (Nat.le_trans u₁ u₂)) fun vu u h₃ t₃ G₃ k₃ e₃ u₃ z₃ => ?_
  obtain ⟨a, vs, n, rfl, e, r⟩ := ((p₁.grow k₂).grow k₃).lstAt k₃.gh
  subst e₂ e₃
  refine ⟨a, vs.toArray, l.map (·.1), u.map (·.1), rfl, lstO_isList e, by rw [List.size_toArray, r.length, sizeLine_eq]; omega, isPart_of l, isPart_of u, ?_⟩
  have hs : slicePick vs.toArray (l.map (·.1)) (u.map (·.1)) Option.none = (((vs.drop ((l.map (·.1)).elim 0 (clipAt ds.length))).take ((u.map (·.1)).elim ds.length (clipAt ds.length) - (l.map (·.1)).elim 0 (clipAt ds.length)))).toArray := by
    rw [slicePick_plain, List.size_toArray, r.length]
  rw [hs]
  have kk := (k₁.trans k₂).trans k₃
  have g := Grow.heap kk.gh (h' := h₃.push { cls := .type "slice", data := .fields #[partValue l, partValue u, .none] }) fun b o e => Heap.get?_push_of_some _ e
  have g' := Grow.push (G := G₃) (h := h₃.push { cls := .type "slice", data := .fields #[partValue l, partValue u, .none] }) (o := lstO ((vs.drop ((l.map (·.1)).elim 0 (clipAt ds.length))).take ((u.map (·.1)).elim ds.length (clipAt ds.length) - (l.map (·.1)).elim 0 (clipAt ds.length))) 0) g.gh
  have hsz : (h₃.push { cls := .type "slice", data := .fields #[partValue l, partValue u, .none] }).objs.size = h₃.objs.size + 1 := Heap.size_push ..
  rw [← hsz]
  exact R _ _ _ _ _ ((kk.trans g).trans g') (.lst (GMap.put_self ..) (((r.mono g'.gg).drop _).take _)) (Nat.le_trans (Nat.le_trans u₁ u₂) u₃) z₃

noncomputable def upTo (x : Str) (n : Nat) : Str := ⟨(x.cps.toList.take n).toArray⟩
theorem txt_upTo (x : Str) (n : Nat) (t t' : Tok) {Q : Value → Shared → Prop} {s : Shared} (hz : x.length ≤ sizeLine) (R : ∀ u k, s.toks ≤ k → Q (.str (upTo x n) u) { s with toks := k }) : (sliceMade x t Option.none (Option.some ((n : Int), t')) Option.none).post Q s := by
  have e := eq_of_beq (slice_to_min_closes (x := x) (n := (n : Int)) (m := if (x.length : Int) < n then (x.length : Int) else n) (by omega) rfl)
  have e2 : (⟨((x.cps.toList.drop (0 : Int).toNat).take ((if (x.length : Int) < n then (x.length : Int) else (n : Int)) - 0).toNat).toArray⟩ : Str) = upTo x n := by
    have hl : x.length = x.cps.toList.length := by rw [Array.length_toList]; rfl
    unfold upTo
    congr 1
    congr 1
    show List.take _ x.cps.toList = _
    split
    · rename_i h
      rw [List.take_of_length_le (by omega), List.take_of_length_le (by omega)]
    · congr 1
  rw [e2] at e
  unfold Txt.slice at e
  show (sliceMade x t Option.none (Option.some ((n : Int), t')) Option.none).post Q s
  unfold sliceMade slicePicked
  simp only [Option.map, Option.getD, beq_self_eq_true, Bool.true_and] at e ⊢
  by_cases hc : ((Builtin.Str.strSliceIndices Option.none (Option.some (n : Int)) 1 x.length).length == x.length) = true
  · rw [if_pos hc] at e ⊢
    have r := R t s.toks (Nat.le_refl _)
    rw [← e] at r
    exact r
  · rw [if_neg hc] at e ⊢
    rw [e]
    refine ⟨?_, R s.toks (s.toks + 1) (Nat.le_succ _)⟩
    have : (upTo x n).length ≤ x.length := by
      show ((x.cps.toList.take n).toArray).size ≤ x.cps.size
      rw [List.size_toArray, List.length_take, Array.length_toList]; omega
    omega

theorem WE.sliceS {value e : Expr} {p pos : Pos} (x : WE prog w B cx value (fun a => ∃ y, a = .str y ∧ y.length ≤ 1000000 ∧ WE prog w B cx e (fun d => ∃ n : Nat, d = .int n ∧ Ψ (.str (upTo y n))) ρ) ρ) :
    WE prog w B cx (.Subscript value (.Slice Option.none (Option.some e) Option.none p) pos) Ψ ρ := fun O G s Q E S tk R => by
  refine Subscript_ (x O G s _ E S tk fun v a h₁ t₁ G₁ k₁ p₁ u₁ z₁ => ?_)
  obtain ⟨y, rfl, hz, z⟩ := z₁
  refine wpAny_Slice (wpAny_evalPart_none (wpAny_evalPart_some ?_))
  refine z O G₁ _ _ E (S.grow k₁) (Nat.lt_of_lt_of_le tk u₁) fun u d h₂ t₂ G₂ k₂ p₂ u₂ z₂ => ?_
  obtain ⟨n, rfl, z⟩ := z₂
  cases p₁ with
  | str _ t =>
    cases p₂ with
    | int _ t' =>
      refine wpAny_evalPart_none ?_
      obtain ⟨ops, ho⟩ := subscripted_ops (.Slice Option.none (Option.some e) Option.none p) (.str y t) (.ref h₂.objs.size)
      refine tail_any (T := "str") (typeIs_str _ _ _) PySem.F.slot_str_getitem.lookup ?_ ho
      have hs : (h₂.push { cls := .type "slice", data := .fields #[.none, .int n t', .none] }).IsSlice h₂.objs.size Option.none (Option.some ((n : Int), t')) Option.none := ⟨_, Heap.get?_push_size _ rfl, rfl, rfl⟩
      refine wpAny_getItem_str_slice (s := { s with heap := h₂.push { cls := .type "slice", data := .fields #[.none, .int n t', .none] }, toks := t₂ }) hs rfl (txt_upTo y n t t' (by rw [sizeLine_eq]; omega) fun u k hk => ?_)
      have g := Grow.heap k₂.gh (h' := h₂.push { cls := .type "slice", data := .fields #[.none, .int n t', .none] }) fun b o e => Heap.get?_push_of_some _ e
      exact R _ _ _ k G₂ ((k₁.trans k₂).trans g) (.str _ _) (Nat.le_trans (Nat.le_trans u₁ u₂) hk) z

/-- a list of strings, seen through its values -/
noncomputable def isText (x : Str) : Value → Bool
  | .str y _ => y == x
  | _ => false
theorem strs_any {x : Str} : ∀ {vs : List Value} {ss : List Str}, RepL prog w G vs (ss.map .str) → vs.any (isText x) = ss.contains x ∧ ∀ v ∈ vs, ∃ y t, v = .str y t
  | vs, [], l => by
    obtain rfl := RepL.none l
    exact ⟨rfl, fun _ m => nomatch m⟩
  | vs, s :: ss, l => by
    obtain ⟨v₀, us, rfl, r, l'⟩ := RepL.more l
    obtain ⟨t, rfl⟩ := r.any
    obtain ⟨e, f⟩ := strs_any (x := x) l'
    refine ⟨?_, fun v m => ?_⟩
    · rw [List.any_cons, e, List.contains_cons]
      show (s == x || _) = (x == s || _)
      rw [BEq.comm]
    · rcases List.mem_cons.mp m with rfl | m
      · exact ⟨_, _, rfl⟩
      · exact f v m
theorem text_eq {A : Around} {s : Shared} {x : Str} {t : Tok} {v : Value} (h : ∃ y t, v = .str y t) : SeqAt.EqAt A s v (.str x t) (isText x v) := by
  obtain ⟨y, u, rfl⟩ := h
  exact SeqAt.EqAt.str_str y u x t

theorem J2.inL {x : Str} {ss : List Str} (z : Ψ (.bool (ss.contains x))) : J2 prog w B cx (compareOp .In) (.str x) (.lst (ss.map .str)) Ψ := fun G s Q E u v o p q R => by
  obtain ⟨t, rfl⟩ := p.str
  obtain ⟨a, vs, n, rfl, e, l⟩ := q.lstAt o.keep
  obtain ⟨h1, h2⟩ := strs_any (x := x) l
  refine SeqAt.in_listAt (isText x) (lstO_isList e) (fun y m => text_eq (h2 y (by simpa using m))) ?_
  have : vs.toArray.any (isText x) = ss.contains x := by rw [← h1]; simp
  rw [this]
  exact R.here o.keep (.bool _) z

theorem first_is {x : Str} : ∀ {vs : List Value} {ss : List Str}, RepL prog w G vs (ss.map .str) → ∀ {j : Nat}, ss.findIdx? (· == x) = Option.some j → ∃ hj : j < vs.length, isText x vs[j] = true ∧ ∀ m (hm : m < vs.length), m < j → isText x vs[m] = false
  | vs, [], _, j, e => by cases e
  | vs, s :: ss, l, j, e => by
    obtain ⟨v₀, us, rfl, r, l'⟩ := RepL.more l
    obtain ⟨t, rfl⟩ := r.any
    rw [List.findIdx?_cons] at e
    by_cases q : (s == x) = true
    · rw [if_pos q] at e; cases e
      exact ⟨Nat.succ_pos _, q, fun m _ h => absurd h (Nat.not_lt_zero _)⟩
    · rw [if_neg q] at e
      cases r : ss.findIdx? (· == x) with
      | none => rw [r] at e; cases e
      | some k =>
        rw [r] at e; cases e
        obtain ⟨h1, h2, h3⟩ := first_is (x := x) l' r
        refine ⟨Nat.succ_lt_succ h1, h2, fun m hm hk => ?_⟩
        cases m with
        | zero => exact Bool.eq_false_iff.mpr q
        | succ m => exact h3 m (Nat.lt_of_succ_lt_succ hm) (Nat.lt_of_succ_lt_succ hk)

theorem WE.index {xe e : Expr} {ap pos : Pos} {pl : Sem Bool} (x : WE prog w B cx xe (fun d => ∃ ss : List Str, d = .lst (ss.map .str) ∧ ss.length ≤ 1000000 ∧ WE prog w B cx e (fun c => ∃ (y : Str) (j : Nat), c = .str y ∧ ss.findIdx? (· == y) = Option.some j ∧ Ψ (.int j)) ρ) ρ) (hn : noStar e = true := by rfl)
    (he : eval (.Call (.Attribute xe "index" ap) [e] [] pos) cx.env = (do let ov ← eval xe cx.env; standAt ap.atName; let (f, first) ← holding [ov] (getMethod ov "index" pl); callWith pos f first (backTo pos (starEach [e] cx.env)) []) := by rfl) :
    WE prog w B cx (.Call (.Attribute xe "index" ap) [e] [] pos) Ψ ρ := fun O G s Q E S tk R => by
  refine PyProof.Rows.MethodCall_ (x O G s _ E S tk fun v d h₁ t₁ G₁ k₁ p₁ u₁ z₁ => ?_) he
  obtain ⟨ss, rfl, hz, z⟩ := z₁
  cases p₁ with
  | lst ea l =>
    rename_i a vs n
    have ea₁ := k₁.gh _ _ ea
    refine getMethod_builtin (T := "list") (s := { s with heap := h₁, toks := t₁ }) (lstO_isList ea₁).typeIs PySem.F.plainAttrs_list PySem.F.slot_list_index (by show builtinType _ = _; rw [builtinType_eq_fast]; kernel_rfl) (fun b q => by cases q; exact ⟨_, ea₁, rfl⟩) ?_
    rw [starEach_plain (es := [e]) (by rw [List.all_cons, hn]; rfl)]
    refine P.index_list (z O G₁ { s with heap := h₁, toks := t₁ } _ E (S.grow k₁) (Nat.lt_of_lt_of_le tk u₁) fun c d h₂ t₂ G₂ k₂ p₂ u₂ z₂ => ?_)
    obtain ⟨y, j, rfl, hj, z⟩ := z₂
    cases p₂ with
    | str _ t =>
      have l₂ := l.mono k₂.gg
      obtain ⟨f1, f2, f3⟩ := first_is (x := y) l₂ hj
      have hlen := l₂.length
      rw [List.length_map] at hlen
      refine ⟨vs.toArray, n, isText y, j, by simpa using f1, lstO_IsL (k₂.hh _ _ ea₁), fun u m => ?_, by omega, by simpa using f2, fun m hm hk => by simpa using f3 m (by simpa using hm) hk, ?_⟩
      · obtain ⟨y', t', rfl⟩ := (strs_any (x := y) l₂).2 u (by simpa using m)
        exact fun _ _ _ _ _ _ hq => wpAny_eqBool_str (by
          have : isText y (.str y' t') = decide (y' = y) := rfl
          rw [this] at hq; exact hq)
      · exact R _ _ h₂ (t₂ + 1) G₂ (k₁.trans k₂) (.int _ _) (by have := Nat.le_trans u₁ u₂; exact Nat.le_succ_of_le this) z
end
end

section

noncomputable abbrev void : Heap := {}
theorem void_get (a : Addr) : void.get? a = none := by
  cases q : void.get? a with
  | none => rfl
  | some o => exact absurd (Heap.lt_size q) (Nat.not_lt_zero _)
/-- all that stands, but for two places -/
noncomputable def others (h : Heap) (L d : Addr) : List (Addr × Obj) := (List.range h.objs.size).filterMap fun a => if a = L ∨ a = d then none else (h.get? a).map (a, ·)
theorem mem_others {h : Heap} {L d : Addr} {p : Addr × Obj} : p ∈ others h L d ↔ h.get? p.1 = some p.2 ∧ p.1 ≠ L ∧ p.1 ≠ d := by
  unfold others
  rw [List.mem_filterMap]
  constructor
  · rintro ⟨a, _, e⟩
    split at e
    · cases e
    · rename_i n
      cases q : h.get? a with
      | none => rw [q] at e; cases e
      | some o => rw [q] at e; cases e; exact ⟨q, fun z => n (.inl z), fun z => n (.inr z)⟩
  · rintro ⟨e, n1, n2⟩
    refine ⟨p.1, List.mem_range.mpr (Heap.lt_size e), ?_⟩
    rw [if_neg (fun z => z.elim n1 n2), e]
    rfl
theorem fr_void {h : Heap} {L : Addr} {m : Str → Option Value} (n : h.Ns L m) : Fr void L h m := ⟨n, (fun b o e => nomatch (void_get b).symm.trans e), Nat.zero_le _⟩

section
variable {prog : Program} {w : World} {K : Frag} {B : Base K} {cx : Cx} {O : List Addr} {G G' : GMap} {h h' : Heap} {ρ : List (Str × D)} {Ψ : D → Prop} {Φ : Fl → List (Str × D) → Prop}

theorem WS.setAttr {x : Str} {xp ap p : Pos} {attr : Str} {e : Expr} {C : Addr} {fs : List (Str × D)} (hl : ρ.lookup x = some (.obj C fs)) (y : WE prog w B cx e (fun d => Φ .next ((x, .obj C (putF attr d fs)) :: ρ)) ρ)
    (hz : fs.length ≤ 900) (hset : findIn K (.ref C) "__setattr__" = some (some (.builtin "object.__setattr__"))) (hp : plainOver K C = true) (ht : takerIn K C attr = some none) (hh : (clsIn K C).any (·.hasDict) = true)
    (hm : cx.mu.contains x = true := by rfl) (hd : (x == ("__debug__" : Str)) = false := by rfl) (hs : swapsWith e (some (.Attribute (.Name x xp) attr ap)) p.line cx.env = pure false := by rfl) :
    WS prog w B cx (.Assign [.Attribute (.Name x xp) attr ap] e p) Φ ρ := fun O G s Q E S tk R => by
  refine plainObj_wpAny_Assign_Attribute (y O G s _ E S tk fun v d h₁ tk₁ G₁ k₁ p₁ t₁ z₁ => ?_) hs
  have S₁ := S.grow k₁
  obtain ⟨m, u, dx, hk, hns, hv, M, hO, na, fin⟩ := S₁.turn hl hm
  refine wpAny_Name (wpAny_loadName_local (s := { s with heap := h₁, toks := tk₁ }) cx.kind hk hns hv ?_) hd
  cases M with
  | obj e0 e1 l =>
    rename_i xa es n
    have o₁ := (S.ok tk).grow k₁ t₁
    have I := instAt (k₁.gh _ _ e0) e1
    refine set_plain (s := { s with heap := h₁, toks := tk₁ }) o₁.frag I hset ?_
    have hes : es.length = fs.length := l.length
    have hx : xa ≠ dx := fun q => by
      have := k₁.gh _ _ e0
      rw [q, e1] at this
      have := congrArg Obj.cls (Option.some.inj this)
      cases this
    have hlook : (lookIn attr (dictOf es n)).isSome = true := by
      rw [lookIn_dict]
      cases q : fs.lookup attr with
      | none => rw [l.getNone q]; rfl
      | some d' => obtain ⟨v', hv', _⟩ := l.find q; rw [hv']; rfl
    have hpres : ((dictOf es n).data.pastItsLine = none ∨ True) := .inr trivial
    refine osa_open (s := { s with heap := h₁, toks := tk₁ + 1 }) o₁.frag I hp ht fun b => ?_
    obtain ⟨cd, hc, hd'⟩ := any_some hh
    have U1 := Heap.SameBut.update h₁ dx (Obj.putName attr (PyData.keyHash w.params attr) (.str attr (tk₁ + 1)) v)
    have U2 : (h₁.update dx (Obj.putName attr (PyData.keyHash w.params attr) (.str attr (tk₁ + 1)) v)).get? dx = some (dictOf (putL attr (PyData.keyHash w.params attr) (.str attr (tk₁ + 1)) v es) (putN attr es n)) := by
      rw [← putName_dict]
      exact Heap.get?_update_self _ e1 (by rw [putName_dict]; rfl)
    have step := fin _ (.obj C (putF attr d fs)) U1 (.obj e0 U2 (RepF.put p₁ l))
    have hx2 := k₁.gh _ _ e0
    refine wpAny_bind (wpAny_pure (wpAny_bind (wpAny_bind (wpAny_loadPart hx2 (wpAny_bind ((looks_clsIn (h := h₁) o₁.frag hc).here (s := { s with heap := h₁, toks := tk₁ + 1 }) ?_))))))
    rw [hd']
    refine wpAny_pure (a := some dx) (wpAny_bind (wpAny_pure (wpAny_bind ?_)))
    unfold nsSet
    refine wpAny_bind (wpAny_bind (wpAny_askSetting (wpAny_pure (wpAny_bind (wpAny_mkText (wpAny_bind (wpAny_loadPart e1 ?_)))))))
    dsimp only
    have c : (!es.toArray.any (·.key.isStr attr) && es.toArray.any (·.refKey)) = false := by
      have : es.toArray.any (·.refKey) = false := by rw [← Array.any_toList]; exact l.noRef
      rw [this, Bool.and_false]
    rw [aRefKeyMayBeTheName_at, c]
    refine wpAny_updatePart e1 ?_
    refine wpAny_bind (wpAny_lookBehind U2 (pastItsLine_dict (by have := putL_length_le attr (PyData.keyHash w.params attr) (.str attr (tk₁ + 1)) v es; rw [List.size_toArray, sizeLine_eq]; omega)) ?_)
    exact wpAny_pure (R .next .next _ _ (tk₁ + 1 + 1) O G₁ ((Step.grow S k₁).trans (Step.same S₁ hO U1 ⟨_, U2⟩)) step trivial (by have : s.toks ≤ tk₁ := t₁; omega) z₁)

theorem tcw (args : Args) : (Code.builtin "type.__call__" args).weight ≤ 2 ∧ (Code.builtin "type.__call__" args).cUnits ≤ 15 := by
  have f : (Code.builtin "type.__call__" args).frames = 0 := by rfl
  have g : (Code.builtin "type.__call__" args).isGuard = false := by simp only [Code.isGuard]; decide +kernel
  have c : (Code.builtin "type.__call__" args).isCaller = false := by simp [Code.isCaller]
  constructor
  · unfold Code.weight
    rw [f, g, c]
    simp only [Bool.false_eq_true, if_false]
    split <;> decide
  · have : (Code.builtin "type.__call__" args).cUnits = 1 + 3 * (Code.builtin "type.__call__" args).frames := by simp only [Code.cUnits]
    rw [this, f]; decide

noncomputable abbrev selfN : Str := "self"
noncomputable def Cx.make (cx : Cx) (args : Args) (env : PySem.Env) (mu : List Str) (self : Value) (hm : mu.contains selfN = true) (hf : 3 ≤ cx.fuel) (hk : env.scope.kind = .function) (hg : env.globals = mainGlobals) (hb : env.builtins = builtinsNs) : Cx :=
  { A := (cx.A.under (.builtin "type.__call__" args)).deeper env, env := env, mu := mu, own := false, pin := some (selfN, self), pinMu := fun _ q => by cases q; exact hm, fuel := cx.fuel - 3, handled := cx.handled,
    depth := by have := cx.depth; have := (tcw args).1; show cx.A.depth + (Code.builtin "type.__call__" args).weight + 1 + (cx.fuel - 3) < _; omega
    units := by have := cx.units; have := (tcw args).2; show cx.A.units + (Code.builtin "type.__call__" args).cUnits + 3 + 20 * (cx.fuel - 3) < _; omega
    kind := hk, globals := hg, builtins := hb }

/-- a class, called: its __init__ fills the new object -/
theorem JC.new {name qual : Str} {params : Arguments} {body : List Stmt} {scope : Scope} {dV kV doc pm cdv ct oc : Value} {an od : Option Addr} {osl : Array (Option Value)} {C f : Addr} {ds : List D} (names : List Str) (extra : List (Str × Value)) (exD : List D) (mu : List Str)
    (hfu : 3 ≤ cx.fuel) (hmk : makesIn K C = true) (hi : findIn K (.ref C) "__init__" = some (some (.ref f))) (hf : typeIn K (.ref f) = some (.type "function"))
    (ho : K.lookup f = some ⟨oc, od, .func (fnOf name qual params body scope dV kV doc pm an cdv ct), osl⟩)
    (hn : (selfN :: names ++ extra.map (·.1)).Nodup) (hl : names.length = ds.length) (hex : ∀ G, RepL prog w G (extra.map (·.2)) exD)
    (hb : ∀ (s : Shared) (self : Value) (vs : List Value), K.In s.heap → vs.length = names.length → BindsTo s (fnOf name qual params body scope dV kV doc pm an cdv ct) ⟨self :: vs, []⟩ ((selfN, self) :: (names.zip vs ++ extra)))
    (hcd : codeIn K cdv qual = true) (hloc : ∀ y ∈ selfN :: names ++ extra.map (·.1), scope.names.lookup y = some .local)
    (hmu : ∀ y ∈ names ++ extra.map (·.1), mu.contains y = false) (hms : mu.contains selfN = true)
    (hcell : ∀ x ∈ scope.names, x.2 ≠ .cell) (hk : scope.kind = .function)
    (x : ∀ args self L, WSs prog w B (cx.make args (envOf qual scope L f cdv) mu self hms hfu hk rfl rfl) body (fun fl ρ => fl = .next ∧ ∃ fs, ρ.lookup selfN = some (.obj C fs) ∧ Ψ (.obj C fs)) ((selfN, .obj C []) :: ((names ++ extra.map (·.1)).zip (ds ++ exD))))
    (hco : scope.isCoroutine = false := by rfl) (hgen : scope.isGenerator = false := by rfl) :
    JC prog w B cx (.ref C) ds Ψ := fun G s Q E vs o r R => by
  have X : K.In s.heap := o.frag
  have hlen : vs.length = names.length := by rw [r.length, hl]
  have k0 : ∀ b ob, s.heap.get? b = some ob → ((s.heap.push emptyDict).push (instObj C s.heap.objs.size)).get? b = some ob := fun b ob e => Heap.get?_push_of_some _ (Heap.get?_push_of_some _ e)
  have g0 : Grow G s.heap G ((s.heap.push emptyDict).push (instObj C s.heap.objs.size)) := Grow.heap o.keep k0
  have hsz : (s.heap.push emptyDict).objs.size = s.heap.objs.size + 1 := Heap.size_push ..
  have hx : ((s.heap.push emptyDict).push (instObj C s.heap.objs.size)).get? (s.heap.objs.size + 1) = some (instObj C s.heap.objs.size) := by rw [← hsz]; exact Heap.get?_push_size _ rfl
  have hdx : ((s.heap.push emptyDict).push (instObj C s.heap.objs.size)).get? s.heap.objs.size = some emptyDict := Heap.get?_push_of_some _ (Heap.get?_push_size _ rfl)
  have hxn : s.heap.get? (s.heap.objs.size + 1) = none := by
    cases q : s.heap.get? (s.heap.objs.size + 1) with
    | none => rfl
    | some ob => exact absurd (Heap.lt_size q) (Nat.not_lt.mpr (Nat.le_succ _))
  have n1 : s.heap.objs.size + 2 ≠ s.heap.objs.size + 1 := Nat.succ_ne_self _
  have n2 : s.heap.objs.size ≠ s.heap.objs.size + 1 := Nat.ne_of_lt (Nat.lt_succ_self _)
  have n3 : s.heap.objs.size + 2 ≠ s.heap.objs.size := Nat.ne_of_gt (Nat.lt_succ_of_lt (Nat.lt_succ_self _))
  refine wpAny_call (make_core (h := s.heap) (makes_of X hmk) (looks_findIn X hi) (fun self => bind_fn X self hf) (.inl rfl) ?_)
  have X1 : K.In ((s.heap.push emptyDict).push (instObj C s.heap.objs.size)) := X.keeps k0
  refine codeAny_call_def (s := ⟨(s.heap.push emptyDict).push (instObj C s.heap.objs.size), s.gens, s.drawn, s.toks, s.os⟩) (fd := fnOf name qual params body scope dV kV doc pm an cdv ct) (body := body) (binds := (selfN, .ref (s.heap.objs.size + 1)) :: (names.zip vs ++ extra)) ?_ (X1 _ _ ho) rfl
    (B.nolim.keeps fun b ob e => k0 _ _ (o.keep b ob (o.base b ob e))) (codeRec_of X1 hcd) rfl (hb _ _ vs X1 hlen) hcell (fun y hy => hloc _ ?_) (fun h₁ hns hk₁ => ?_) hco hgen hk
  · have := cx.depth; have := (tcw ⟨.ref C :: vs, []⟩).1
    show cx.A.depth + (Code.builtin "type.__call__" _).weight < _
    omega
  · rcases List.mem_cons.mp hy with rfl | hy
    · exact List.mem_cons_self ..
    · refine List.mem_cons_of_mem _ ?_
      rcases List.mem_append.mp hy with hy | hy
      · exact List.mem_append_left _ (List.of_mem_zip hy).1
      · exact List.mem_append_right _ (List.mem_map.mpr ⟨_, hy, rfl⟩)
  · have hz : names.zip vs ++ extra = (names ++ extra.map (·.1)).zip (vs ++ extra.map (·.2)) := by
      rw [List.zip_append (by omega)]
      congr 1
      clear hb hloc hmu hex hn hlen hl x hns
      induction extra with
      | nil => rfl
      | cons p r ih => rw [List.map_cons, List.map_cons, List.zip_cons_cons]; exact congrArg _ ih
    have kk := fun b ob e => hk₁ b ob (k0 b ob e)
    -- the object is frozen from the start, its dict is the frame's own
    have g1 : Grow G s.heap (G.put (s.heap.objs.size + 1) (instObj C s.heap.objs.size)) h₁ := Grow.fresh o.keep hxn kk (hk₁ _ _ hx)
    have hLn : (G.put (s.heap.objs.size + 1) (instObj C s.heap.objs.size)) (s.heap.objs.size + 2) = none := by
      rw [GMap.put_ne n1]
      refine gnone o.keep ?_
      cases q : s.heap.get? (s.heap.objs.size + 2) with
      | none => rfl
      | some ob => exact absurd (Heap.lt_size q) (Nat.not_lt.mpr (Nat.le_add_right _ 2))
    have hDn : (G.put (s.heap.objs.size + 1) (instObj C s.heap.objs.size)) s.heap.objs.size = none := by
      rw [GMap.put_ne n2]; exact gnone o.keep (get_size _)
    have hsz2 : ((s.heap.push emptyDict).push (instObj C s.heap.objs.size)).objs.size = s.heap.objs.size + 2 := by rw [Heap.size_push, hsz]
    have hnd := hn
    rw [List.cons_append] at hnd
    have hns' : h₁.Ns (s.heap.objs.size + 2) (fun y => ((selfN, Value.ref (s.heap.objs.size + 1)) :: (names.zip vs ++ extra)).reverse.lookup y) := by rw [← hsz2]; exact hns
    have hmap : ((selfN, Value.ref (s.heap.objs.size + 1)) :: (names.zip vs ++ extra)).map (·.1) = selfN :: names ++ extra.map (·.1) := by
      rw [List.map_cons, List.map_append]
      have := List.map_fst_zip (l₁ := names) (l₂ := vs) (by omega)
      rw [this]; rfl
    have rl : RepL prog w (G.put (s.heap.objs.size + 1) (instObj C s.heap.objs.size)) (vs ++ extra.map (·.2)) (ds ++ exD) := (r.mono g1.gg).append (hex _)
    have S₁ : St prog w B (cx.make ⟨.ref C :: vs, []⟩ (envOf qual scope (s.heap.objs.size + 2) f cdv) mu (.ref (s.heap.objs.size + 1)) hms hfu hk rfl rfl) [s.heap.objs.size + 2, s.heap.objs.size] (G.put (s.heap.objs.size + 1) (instObj C s.heap.objs.size)) h₁ ((selfN, .obj C []) :: ((names ++ extra.map (·.1)).zip (ds ++ exD))) := by
      refine ⟨fun a ob e => g1.gg _ _ (o.base _ _ e), g1.gh, fun a ha => ?_, fun q => (by cases q), fun p hp => (by cases hp; exact ⟨_, hns', lookup_rev (by rw [hmap]; exact hn) (by rw [List.lookup_cons]; rfl)⟩), _, [(selfN, s.heap.objs.size)], hns', ?_, fun a ha => ha, fun y d e => ?_⟩
      · rcases List.mem_cons.mp ha with rfl | ha
        · obtain ⟨oL, _, _, e, _⟩ := hns'; exact ⟨hLn, oL, e⟩
        · rw [List.mem_singleton.mp ha]; exact ⟨hDn, _, hk₁ _ _ hdx⟩
      · refine List.nodup_cons.mpr ⟨fun q => ?_, List.nodup_cons.mpr ⟨by simp, List.nodup_nil⟩⟩
        exact n3 (List.mem_singleton.mp q)
      · by_cases q : y = selfN
        · subst q
          rw [lookup_cons_eq] at e; cases e
          refine .own (hloc _ (List.mem_cons_self ..)) hms rfl (lookup_rev (by rw [hmap]; exact hn) (by rw [List.lookup_cons]; rfl)) (.obj (GMap.put_self ..) (hk₁ _ _ hdx) .nil)
        · rw [lookup_cons_ne q] at e
          obtain ⟨v, hv, rv⟩ := zip_lookup rl e
          have hy : y ∈ names ++ extra.map (·.1) := (List.of_mem_zip (mem_of_lookup e)).1
          refine .loc (hloc y (List.mem_cons_of_mem _ hy)) (hmu y hy) (lookup_rev (by rw [hmap]; exact hn) ?_) rv
          rw [hz, List.lookup_cons]
          have : (y == selfN) = false := by simpa using q
          rw [this]; exact hv
    rw [show ((⟨(s.heap.push emptyDict).push (instObj C s.heap.objs.size), s.gens, s.drawn, s.toks, s.os⟩ : Shared).heap.objs.size) = s.heap.objs.size + 2 from hsz2]
    refine x ⟨.ref C :: vs, []⟩ (.ref (s.heap.objs.size + 1)) (s.heap.objs.size + 2) _ _ { s with heap := h₁, toks := s.toks + ((selfN, Value.ref (s.heap.objs.size + 1)) :: (names.zip vs ++ extra)).length } _ _ S₁ (Nat.lt_of_lt_of_le o.tk (Nat.le_add_right _ _)) fun fl f' ρ' h₂ tk₂ O₂ G₂ k₂ S₂ p₂ t₂ z₂ => ?_
    obtain ⟨rfl, fs, hls, z⟩ := z₂
    cases fl <;> first | exact p₂.elim | skip
    refine ⟨rfl, ?_⟩
    obtain ⟨m, v, a, _, hmv0, hmv1, M, hO, _, _⟩ := S₂.turn hls hms
    have hmv := And.intro hmv0 hmv1
    have nin : ∀ b ob, s.heap.get? b = some ob → b ∉ [s.heap.objs.size + 2, s.heap.objs.size] := fun b ob e q => by
      have := Heap.lt_size e
      rcases List.mem_cons.mp q with z | q
      · rw [z] at this; exact Nat.not_lt.mpr (Nat.le_add_right _ 2) this
      · rw [List.mem_singleton.mp q] at this; exact Nat.lt_irrefl _ this
    have newO : ∀ b ∈ O₂, s.heap.get? b = none := fun b hb => by
      cases q : s.heap.get? b with
      | none => rfl
      | some ob =>
        rcases k₂.on b hb with y | y
        · exact (nin b ob q y).elim
        · rw [kk b ob q] at y; cases y
    have gl := (g1.gg).trans k₂.gg
    have hG₂ := (S₂.own a hO).1
    obtain ⟨m₁, hm₁, hv₁⟩ := S₂.pin _ rfl
    have hmm : v = .ref (s.heap.objs.size + 1) := by
      obtain ⟨ob, es, ep, z1, z2, z3, z4⟩ := hmv.1
      obtain ⟨ob', es', ep', y1, y2, y3, y4⟩ := hm₁
      rw [z1] at y1; cases y1; rw [z2] at y2; cases y2
      have := (z4 selfN).symm.trans (y4 selfN)
      rw [hmv.2, hv₁] at this
      exact Option.some.inj this
    cases M with
    | @obj _ xa _ es n _ e0 e1 l =>
      cases hmm
      have e2 := k₂.gg _ _ (GMap.put_self G (s.heap.objs.size + 1) (instObj C s.heap.objs.size))
      rw [e0] at e2
      have ea : a = s.heap.objs.size := by
        have := congrArg Obj.dict (Option.some.inj e2)
        exact Option.some.inj this
      subst ea
      have hsn : s.heap.get? s.heap.objs.size = none := get_size _
      have gr : GLe G₂ (G₂.put s.heap.objs.size (dictOf es n)) := GMap.put_le hG₂
      refine R _ (.obj C fs) h₂ tk₂ (G₂.put s.heap.objs.size (dictOf es n)) ⟨gl.trans gr, fun b ob e => ?_, fun b ob e => k₂.keep b ob (nin b ob e) (kk b ob e), fun b ob e ng => ?_⟩ (.obj (gr _ _ e0) (GMap.put_self ..) (l.mono gr)) (Nat.le_trans (Nat.le_add_right _ _) t₂) z
      · by_cases q : b = s.heap.objs.size
        · subst q; rw [GMap.put_self] at e; cases e; exact e1
        · rw [GMap.put_ne q] at e; exact S₂.keep b ob e
      · have nb : b ≠ s.heap.objs.size := fun q => by rw [q, hsn] at e; cases e
        rw [GMap.put_ne nb]
        refine k₂.new b ob (nin b ob e) (kk b ob e) ?_
        have nb' : b ≠ s.heap.objs.size + 1 := fun q => by rw [q, hxn] at e; cases e
        rw [GMap.put_ne nb']; exact ng
end
end

section
section
variable {prog : Program} {w : World} {K : Frag} {B : Base K} {cx : Cx} {O : List Addr} {G G' : GMap} {h h' : Heap} {ρ : List (Str × D)} {Ψ : D → Prop} {Φ : Fl → List (Str × D) → Prop}

theorem JT.none {Φ : Bool → Prop} (z : Φ false) : JT prog w B cx .none Φ := fun G s Q E u o v R => by
  cases v.none
  exact show wpAny _ _ (pure false) _ _ _ from wpAny_pure (R false s.heap s.toks G (Grow.refl o.keep) (Nat.le_refl _) z)

theorem fold_rep (v : Value) : ∀ (n : Nat) (acc : List Value), List.foldl (fun x1 x2 => x1 ++ x2) acc.toArray (List.replicate n #[v]) = (acc ++ List.replicate n v).toArray
  | 0, acc => by simp
  | n + 1, acc => by
    rw [List.replicate_succ, List.foldl_cons]
    have : acc.toArray ++ #[v] = (acc ++ [v]).toArray := by simp
    rw [this, fold_rep v n]
    congr 1
    rw [List.append_assoc]; rfl

theorem J2.rep {d : D} {k : Int} (h0 : 0 ≤ k) (h1 : k ≤ 100000) (z : Ψ (.lst (List.replicate k.toNat d))) : J2 prog w B cx (binaryOp .Mult) (.lst [d]) (.int k) Ψ := fun G s Q E u v o p q R => by
  obtain ⟨a, vs, n, rfl, e, l⟩ := p.lstAt o.keep
  obtain ⟨t, rfl⟩ := q.int
  cases l with
  | cons r l =>
    rename_i v vs
    cases l with
    | nil =>
    refine wpAny_binaryOp_repeat_ref (T := "list") (U := "int") (by decide) ⟨_, e, rfl⟩ (fun s' => typeIs_int s' k t) noFill_list_mul PySem.F.fills_int_mul PySem.F.slot_int_rmul repeat_list PySem.F.slot_int_index.lookup
      (call_meets PySem.F.slot_int_rmul (typeIs_int s k t) PySem.F.entry_int_rmul (PySem.F.args_int_rmul_2 _ _) (int___rmul___int_list k t a _ n)
        ⟨e, rfl, ⟨_, e, rfl⟩, call_meets PySem.F.slot_list_mul ⟨_, e, rfl⟩ PySem.F.entry_list_mul (PySem.F.args_list_mul_2 _ _)
          (AutoListH.list___mul___list_int_3 a _ n k t (by simp [Builtin.List.listFitsIndex]; omega) (by simp; omega) (by simp [Builtin.List.listTooLong, sizeLine]; omega)) ⟨e, ?_⟩⟩)
    have hf : (List.foldl (fun x1 x2 => x1 ++ x2) #[] (List.replicate (if ([v].toArray : Array Value).isEmpty = true then 0 else k.toNat) [v].toArray)) = (List.replicate k.toNat v).toArray := by
      have := fold_rep v k.toNat []
      simpa using this
    rw [hf]
    have g := Grow.push (G := G) (h := s.heap) (o := lstO (List.replicate k.toNat v) 0) o.keep
    exact R _ _ _ s.toks _ g (.lst (GMap.put_self ..) (RepL.replicate (r.mono g.gg) _)) (Nat.le_refl _) z

theorem ints_are : ∀ {vs : List Value} {is : List Int}, RepL prog w G vs (is.map .int) → IntsAre vs is
  | vs, [], l => by
    obtain rfl := RepL.none l
    exact .nil
  | vs, i :: is, l => by
    obtain ⟨v₀, us, rfl, r, l'⟩ := RepL.more l
    obtain ⟨t, rfl⟩ := r.any
    exact .cons i t (ints_are l')

theorem J1.sum {is : List Int} (z : Ψ (.int is.sum)) : J1 prog w B cx (fun v => call (.builtin "sum") [v] []) (.lst (is.map .int)) Ψ := fun G s Q E u o p R => by
  obtain ⟨a, vs, n, rfl, e, l⟩ := p.lstAt o.keep
  have hi := ints_are l
  obtain ⟨xs, hx⟩ := hi.allInts.items
  have hl' : s.heap.IsList a (intItems xs) := hx ▸ lstO_isList e
  refine wpAny_with_toks (Nat.le_refl s.toks) (sum_intListG cx.handled hl' fun h' tk t' hk => ?_)
  have e1 : is = xs.toList.map (·.1) := by
    rw [← nums_intItems, ← hx]
    exact (show numsOf vs.toArray.toList = is from hi.numsOf).symm
  have e2 : preSum (numAt xs) xs.size = is.sum := by
    rw [preSum_eq, List.take_of_length_le (by simp), e1]
  rw [e2]
  exact fun ht => R _ _ _ _ _ (Grow.heap o.keep hk) (.int _ _) ht z

/-- a written dict -/
noncomputable def WD (prog : Program) (w : World) {K : Frag} (B : Base K) (cx : Cx) (pos : Pos) (ps : List (Expr × Expr)) (Φ : List (Str × D) → Prop) (ρ : List (Str × D)) : Prop :=
  ∀ O G (s : Shared) (Q : List (Value × Value) → Shared → Prop) (E : Value → Shared → Prop), St prog w B cx O G s.heap ρ → 0 < s.toks →
    (∀ vs kvs ds h' tk' G', Grow G s.heap G' h' → Carries (PySem.strKind prog w) vs kvs → RepK prog w G' kvs ds → s.toks ≤ tk' → Φ ds → Q vs { s with heap := h', toks := tk' }) →
    wpAny (model prog w) cx.A (evalPairs (ps.map fun p => (eval p.1 cx.env, do let x ← eval p.2 cx.env; standAt pos; pure x))) Q E s
theorem WD.nil {pos : Pos} {Φ : List (Str × D) → Prop} (z : Φ []) : WD prog w B cx pos [] Φ ρ := fun O G s Q E S tk R =>
  evalPairs_nil (R [] [] [] s.heap s.toks G (Grow.refl S.keep) trivial .nil (Nat.le_refl _) z)
theorem WD.cons {pos : Pos} {k v : Expr} {ps : List (Expr × Expr)} {Φ : List (Str × D) → Prop} (x : WE prog w B cx k (fun c => ∃ y : Str, c = .str y ∧ WE prog w B cx v (fun d => WD prog w B cx pos ps (fun ds => Φ ((y, d) :: ds)) ρ) ρ) ρ) :
    WD prog w B cx pos ((k, v) :: ps) Φ ρ := fun O G s Q E S tk R => by
  refine evalPairs_cons (x O G s _ E S tk fun kv c h₁ t₁ G₁ k₁ p₁ u₁ z₁ => ?_)
  obtain ⟨y, rfl, z⟩ := z₁
  refine wpAny_bind (z O G₁ _ _ E (S.grow k₁) (Nat.lt_of_lt_of_le tk u₁) fun vv d h₂ t₂ G₂ k₂ p₂ u₂ z₂ => wpAny_bind (wpAny_standAt (wpAny_pure ?_)))
  refine z₂ O G₂ _ _ E ((S.grow k₁).grow k₂) (Nat.lt_of_lt_of_le tk (Nat.le_trans u₁ u₂)) fun vs kvs ds h₃ t₃ G₃ k₃ c₃ r₃ u₃ z₃ => ?_
  cases p₁ with
  | str _ t =>
    exact R _ ((y, vv) :: kvs) ((y, d) :: ds) h₃ t₃ G₃ ((k₁.trans k₂).trans k₃) ⟨strKind_is prog w y t, rfl, c₃⟩ (.cons (p₂.mono k₃.gg) r₃) (Nat.le_trans (Nat.le_trans u₁ u₂) u₃) z₃

theorem RepK.keys : ∀ {kvs : List (Str × Value)} {ds : List (Str × D)}, RepK prog w G kvs ds → kvs.map (·.1) = ds.map (·.1)
  | _, [], r₀ => by rw [r₀.none]; rfl
  | _, (k', d') :: ds, r₀ => by
    obtain ⟨v, us, rfl, h, l⟩ := r₀.more
    exact congrArg (_ :: ·) l.keys

theorem WE.dict {keys : List (Option Expr)} {values : List Expr} {pos : Pos} {ps : List (Expr × Expr)} (x : WD prog w B cx pos ps (fun ds => (ds.map (·.1)).Nodup ∧ Ψ (.dic ds)) ρ)
    (hshape : (evalEachOpt keys cx.env).zip ((evalEach values cx.env).map fun v => do let x ← v; standAt pos; pure x) = (ps.map fun p => (eval p.1 cx.env, do let x ← eval p.2 cx.env; standAt pos; pure x)).map fun p => (some p.1, p.2)) (h0 : ps ≠ []) (hlen : ps.length ≤ 15) :
    WE prog w B cx (.Dict keys values pos) Ψ ρ := fun O G s Q E S tk R => by
  refine wpAny_Dict_pairs (knd := PySem.strKind prog w) hshape (by simpa using h0) (by simpa using hlen) ?_
  have g := Grow.heap S.keep (h' := s.heap.push { cls := .type "dict", data := .dict #[] }) fun b o e => Heap.get?_push_of_some _ e
  have hsys : (s.heap.objs.size == sysModules) = false := by
    obtain ⟨mc, hn, _⟩ := (B.nolim.keeps fun b o e => S.keep b o (S.base b o e))
    have h2 : sysModules ≠ s.heap.objs.size := by
      intro q
      have : cStatics < s.heap.objs.size := hn.lt
      rw [← q] at this
      exact absurd this (by decide)
    simpa using fun q => h2 q.symm
  have hd0 : (s.heap.push { cls := .type "dict", data := .dict #[] }).DictOf (PySem.strKind prog w) s.heap.objs.size [] := by
    refine Heap.dictOf_iff.mpr ⟨_, Heap.get?_push_size _ rfl, #[], 0, ⟨rfl, rfl, rfl⟩, rfl, fun e he => by simp at he, ?_, List.nodup_nil⟩
    exact .nil
  refine x O G { s with heap := s.heap.push { cls := .type "dict", data := .dict #[] } } _ E (S.grow g) tk fun vs kvs ds h₁ t₁ G₁ k₁ c₁ r₁ u₁ z₁ => ?_
  refine ⟨kvs, c₁, hd0.keep k₁.hh, fun h₂ D₂ hs => ?_⟩
  have hnd : (kvs.map (·.1)).Nodup := by rw [r₁.keys]; exact z₁.1
  rw [merged_nil_of_nodup _ hnd] at D₂
  obtain ⟨o, eo, io⟩ := Heap.dictOf_iff.mp D₂
  have kk := g.trans k₁
  have hGn : G₁ s.heap.objs.size = Option.none := k₁.new _ _ (Heap.get?_push_size _ rfl) (gnone S.keep (get_size _))
  have hk2 : ∀ b o, s.heap.get? b = some o → h₂.get? b = some o := fun b o e => (hs.2 b (fun q => by rw [q, get_size] at e; cases e)).trans (kk.hh b o e)
  have gg : GLe G₁ (G₁.put s.heap.objs.size o) := GMap.put_le hGn
  refine R _ (.dic ds) h₂ _ (G₁.put s.heap.objs.size o) ⟨kk.gg.trans gg, fun b ob e => ?_, hk2, fun b ob e ng => ?_⟩ (.dic hsys (GMap.put_self ..) io (r₁.mono gg)) (Nat.le_trans u₁ (Nat.le_add_right _ _)) z₁.2
  · by_cases q : b = s.heap.objs.size
    · subst q; rw [GMap.put_self] at e; cases e; exact eo
    · rw [GMap.put_ne q] at e; exact (hs.2 b q).trans (k₁.gh b ob e)
  · by_cases q : b = s.heap.objs.size
    · rw [q, get_size] at e; cases e
    · rw [GMap.put_ne q]; exact kk.new b ob e ng

theorem J2.inD {ds : List (Str × D)} {k : Str} (z : Ψ (.bool (ds.lookup k).isSome)) : J2 prog w B cx (compareOp .In) (.str k) (.dic ds) Ψ := fun G s Q E u v o p q R => by
  obtain ⟨t, rfl⟩ := p.str
  obtain ⟨a, ob, kvs, rfl, ns, e, i, l⟩ := q.dicAt o.keep
  have hd : s.heap.DictOf (PySem.strKind prog w) a kvs := Heap.dictOf_iff.mpr ⟨ob, e, i⟩
  refine wpAny_in_of (strKind_is prog w k t) ns hd.mapOf ?_
  have : (valueAt kvs k).isSome = (ds.lookup k).isSome := by
    cases q : ds.lookup k with
    | none => rw [l.findNone q]; rfl
    | some d => obtain ⟨v, hv, _⟩ := l.find q; rw [hv]; rfl
  rw [this]
  exact R.tok o.keep (.bool _) z (Nat.le_succ _)

theorem WE.replace {xe : Expr} {y y' : Str} {c1 c2 : Nat} {p1 p2 ap pos : Pos} {pl : Sem Bool} (x : WE prog w B cx xe (fun d => ∃ t : Str, d = .str t ∧ t.length ≤ 100000 ∧ Ψ (.str (Txt.replace t y y'))) ρ) (hy : (y == y') = false) (hl : y'.length ≤ 10)
    (he : eval (.Call (.Attribute xe "replace" ap) [.Constant (.str y) c1 p1, .Constant (.str y') c2 p2] [] pos) cx.env = (do let ov ← eval xe cx.env; standAt ap.atName; let (f, first) ← holding [ov] (getMethod ov "replace" pl); callWith pos f first (backTo pos (starEach [.Constant (.str y) c1 p1, .Constant (.str y') c2 p2] cx.env)) []) := by rfl) :
    WE prog w B cx (.Call (.Attribute xe "replace" ap) [.Constant (.str y) c1 p1, .Constant (.str y') c2 p2] [] pos) Ψ ρ := fun O G s Q E S tk R => by
  refine PyProof.Rows.MethodCall_ (x O G s _ E S tk fun v d h₁ t₁ G₁ k₁ p₁ u₁ z₁ => ?_) he
  obtain ⟨t, rfl, hz, z⟩ := z₁
  cases p₁ with
  | str _ tt =>
    refine GM.replace ?_
    rw [starEach_plain (es := [.Constant (.str y) c1 p1, .Constant (.str y') c2 p2]) rfl]
    refine callWith_of (P := fun h => K.In h) rfl (fun h X => Keeps.builtin _ h X) ?_
    refine evalArgs_plain (spliced_cons (Calls.Constant_str (spliced_cons (Calls.Constant_str (spliced_nil ⟨(S.grow k₁).frag (s := { s with heap := h₁, toks := t₁ + 1 + 1 }), ?_⟩)))))
    have h1 : 0 < t₁ := Nat.lt_of_lt_of_le tk u₁
    refine wpAny_with_toks (Nat.le_refl (t₁ + 1 + 1)) (SC.replace (Nat.ne_of_gt h1) (Nat.succ_ne_zero _) (Nat.ne_of_lt (Nat.lt_succ_self _)) hy ?_ fun t' k hk => ?_)
    · have : (t.length + 1) * y'.length ≤ (t.length + 1) * 10 := Nat.mul_le_mul_left _ hl
      omega
    · exact R _ _ h₁ k G₁ k₁ (.str _ _) (Nat.le_trans u₁ (Nat.le_trans (Nat.le_add_right _ 2) hk)) z

theorem WE.count {xe : Expr} {y : Str} {c1 : Nat} {p1 ap pos : Pos} {pl : Sem Bool} (x : WE prog w B cx xe (fun d => ∃ t : Str, d = .str t ∧ Ψ (.int (Txt.count t y))) ρ)
    (he : eval (.Call (.Attribute xe "count" ap) [.Constant (.str y) c1 p1] [] pos) cx.env = (do let ov ← eval xe cx.env; standAt ap.atName; let (f, first) ← holding [ov] (getMethod ov "count" pl); callWith pos f first (backTo pos (starEach [.Constant (.str y) c1 p1] cx.env)) []) := by rfl) :
    WE prog w B cx (.Call (.Attribute xe "count" ap) [.Constant (.str y) c1 p1] [] pos) Ψ ρ := fun O G s Q E S tk R => by
  refine PyProof.Rows.MethodCall_ (x O G s _ E S tk fun v d h₁ t₁ G₁ k₁ p₁ u₁ z₁ => ?_) he
  obtain ⟨t, rfl, z⟩ := z₁
  cases p₁ with
  | str _ tt =>
    refine GM.count ?_
    rw [starEach_plain (es := [.Constant (.str y) c1 p1]) rfl]
    refine callWith_of (P := fun h => K.In h) rfl (fun h X => Keeps.builtin _ h X) ?_
    refine evalArgs_plain (spliced_cons (Calls.Constant_str (spliced_nil ⟨(S.grow k₁).frag (s := { s with heap := h₁, toks := t₁ + 1 }), ?_⟩)))
    refine SC.count ?_
    exact R _ _ h₁ (t₁ + 1 + 1) G₁ k₁ (.int _ _) (Nat.le_trans u₁ (Nat.le_add_right _ 2)) z
end
end

section

/-- alike, whatever the order in a dict -/
noncomputable def Sm : Nat → D → D → Prop
  | 0, _, _ => False
  | _ + 1, .int i, .int j => i = j
  | _ + 1, .str x, .str y => x = y
  | n + 1, .tup a, .tup b => a.length = b.length ∧ ∀ (i : Nat) x y, a[i]? = some x → b[i]? = some y → Sm n x y
  | n + 1, .dic a, .dic b => a.length = b.length ∧ ∀ k d, (k, d) ∈ a → ∃ d', b.lookup k = some d' ∧ Sm n d d'
  | _ + 1, _, _ => False

section
variable {prog : Program} {w : World} {K : Frag} {B : Base K} {cx : Cx} {O : List Addr} {G G' : GMap} {h h' : Heap} {ρ : List (Str × D)} {Ψ : D → Prop} {Φ : Fl → List (Str × D) → Prop}

/-- told equal, in this model -/
noncomputable def EqW (prog : Program) (w : World) (A : Around) (s : Shared) (u v : Value) : Prop := ∀ (E : Value → Shared → Prop) (Q : Bool → Shared → Prop), Q true s → wpAny (model prog w) A (eqBool u v) Q E s
theorem EqW.same {A : Around} {s : Shared} (v : Value) : EqW prog w A s v v := fun E Q q => SeqAt.EqAt.same v prog w E Q q
theorem EqW.refs {A : Around} {s : Shared} {a b : Addr} (h : ∀ (E : Value → Shared → Prop) (Q : Value → Shared → Prop), Q (.bool true) s → wpAny (model prog w) A (richCompare .Eq (.ref a) (.ref b)) Q E s) : EqW prog w A s (.ref a) (.ref b) := by
  by_cases q : a = b
  · subst q; exact EqW.same _
  · intro E Q hq
    unfold eqBool
    refine wpAny_holding ?_
    refine wpAny_ite_split (fun hab => absurd (by have := eq_of_beq hab; injection this) q) (fun _ => ?_)
    exact wpAny_bind (h E _ (wpAny_truthy_bool hq))

theorem tuples_eqW {l b : Addr} {xs ys : List Value} {n n2 : Nat} (hsz : xs.length = ys.length) :
    MeetsIn prog w (Builtin.«tuple.__eq__» ⟨[.ref l, .ref b], []⟩)
      (fun A R s => s.heap.get? l = some (tupO xs n) ∧ s.heap.get? b = some (tupO ys n2) ∧ (∀ j (h1 : j < xs.length) (h2 : j < ys.length), EqW prog w A.in1 s xs[j] ys[j]) ∧ R (.ok (.ret (.bool true))) s) := fun A R s h => by
  obtain ⟨hp, g, d, tk, os⟩ := s
  obtain ⟨hl, hb, he, h⟩ := h
  have f2 := AutoSeq1.sub_tuple_tuple
  wp_walk using wpAny_loadPart' hl, wpAny_loadPart' hb, wpAny_forIn_list _ (fun rest b s' => b.1 = none ∧ s' = ⟨hp, g, d, tk, os⟩ ∧ ∃ i, rest = (xs.zip ys).drop i) _
  case turn =>
    rintro ⟨y, x⟩ rest b s' ⟨hb', rfl, i, hz⟩
    have hlt : i < (xs.zip ys).length := by
      rcases Nat.lt_or_ge i (xs.zip ys).length with h' | h'
      · exact h'
      · rw [List.drop_of_length_le h'] at hz; cases hz
    have hm : i < xs.length ∧ i < ys.length := by rw [List.length_zip] at hlt; omega
    rw [List.drop_eq_getElem_cons hlt] at hz
    injection hz with hyx hrest
    have hy : y = xs[i] := by have := congrArg Prod.fst hyx; simpa using this
    have hx : x = ys[i] := by have := congrArg Prod.snd hyx; simpa using this
    subst hy hx
    refine wpAny_bind (he i hm.1 hm.2 _ _ ?_)
    wp_walk
    exact ⟨rfl, rfl, i + 1, hrest⟩
  case fin =>
    rintro ⟨b1, b2⟩ s' ⟨hb', rfl, i, hz⟩
    simp only at hb'
    subst hb'
    wp_walk
    simpa [Builtin.Tuple.tupleCompareSizes, hsz] using h
  case h =>
    exact ⟨rfl, rfl, 0, by simp⟩

theorem same_pairsW {nm : String} {A : Around} {s : Shared} {a b : Addr} {ka kb : List (Str × Value)} {E : Value → Shared → Prop} {Q : Bool → Shared → Prop} (ha : (a == sysModules) = false) (hb : (b == sysModules) = false)
    (da : s.heap.DictOf (PySem.strKind prog w) a ka) (db : s.heap.DictOf (PySem.strKind prog w) b kb) (hlen : ka.length = kb.length) (hits : ∀ k v, (k, v) ∈ ka → ∃ y, valueAt kb k = some y ∧ EqW prog w A s v y) (h : Q true s) :
    wpAny (model prog w) A (Builtin.Dict.samePairs nm a b) Q E s := by
  obtain ⟨oa, es, ep, hoa, _, hda, hka, hpa, _⟩ := da
  obtain ⟨ob, es', ep', hob, _, hdb, hkb, hpb, _⟩ := db
  have hla : ka.length = es.size := by rw [← hpa.length]; exact Array.length_toList
  have hlb : kb.length = es'.size := by rw [← hpb.length]; exact Array.length_toList
  have hfind : ∀ k, findBy (PySem.strKind prog w).is es' k = valueAt kb k := fun k => by
    rw [← hpb.find k]
    clear hlb hpb hkb hdb hob
    obtain ⟨l⟩ := es'
    simp [findBy]
  have hsz : es.size = es'.size := by omega
  unfold Builtin.Dict.samePairs Builtin.Dict.showsAll
  rw [if_neg (show ¬ (a == sysModules) = true by rw [ha]; exact Bool.false_ne_true), if_neg (show ¬ (b == sysModules) = true by rw [hb]; exact Bool.false_ne_true)]
  refine wpAny_bind (wpAny_pure (wpAny_bind (wpAny_pure (wpAny_bind (wpAny_dictEntries hoa hda ?_)))))
  dsimp only
  refine wpAny_bind (wpAny_dictEntries hob hdb ?_)
  rw [if_neg (by rw [hsz]; simp)]
  refine wpAny_bind (wpAny_dictEpoch hoa hda (wpAny_bind ?_))
  rw [Std.Legacy.Range.forIn_eq_forIn_range']
  simp only [Std.Legacy.Range.size, Nat.sub_zero, Nat.add_sub_cancel, Nat.div_one]
  refine wpAny_forIn_list _ (fun rest q s' => s' = s ∧ q = (none, ()) ∧ ∃ i, rest = List.range' i (es.size - i) ∧ i ≤ es.size) _ ?_ ?_ _ _ ⟨rfl, rfl, 0, by simp, Nat.zero_le _⟩
  · rintro x rest q s' ⟨rfl, rfl, i, hr, hi⟩
    have hlt : i < es.size := by
      rcases Nat.lt_or_ge i es.size with h | h
      · exact h
      · rw [Nat.sub_eq_zero_of_le h] at hr; simp at hr
    obtain ⟨rfl, hrest⟩ : x = i ∧ rest = List.range' (i + 1) (es.size - (i + 1)) := by
      have e : es.size - i = (es.size - (i + 1)) + 1 := by omega
      rw [e, List.range'_succ] at hr
      injection hr with h1 h2
      exact ⟨h1, h2⟩
    refine wpAny_bind (wpAny_dictEntries hoa hda ?_)
    rw [Array.getElem?_eq_getElem hlt]
    have hlt' : x < ka.length := by rw [hla]; exact hlt
    obtain ⟨k, v, hkv⟩ : ∃ k v, ka[x] = (k, v) := ⟨_, _, rfl⟩
    obtain ⟨hkey, hval⟩ := hpa.get? (i := x) (e := es[x]) (k := k) (v := v) (by rw [Array.getElem?_toList]; exact Array.getElem?_eq_getElem hlt) (by rw [List.getElem?_eq_getElem hlt', hkv])
    obtain ⟨k', hk', hh⟩ := hka es[x] (Array.getElem_mem hlt)
    have ekk : k' = k := (PySem.strKind prog w).inj _ _ _ hk' hkey
    rw [ekk] at hh
    obtain ⟨y, hy, he⟩ := hits k v (hkv ▸ List.getElem_mem hlt')
    show wpAny _ _ (holding [es[x].key, es[x].val] _ >>= _) _ _ _
    rw [hh]
    refine wpAny_bind (wpAny_holding (wpAny_bind (wpAny_dictFind_of hkey hob hdb hkb ?_)))
    cases hj : es'.findIdx? fun e => (PySem.strKind prog w).is k e.key with
    | none =>
      have hn : valueAt kb k = none := by rw [← hfind k, findBy_of_findIdx?, hj]
      rw [hn] at hy; cases hy
    | some j =>
      obtain ⟨hjlt, _, _⟩ := Array.findIdx?_eq_some_iff_getElem.mp hj
      have hv' : valueAt kb k = some es'[j].val := by
        rw [← hfind k, findBy_of_findIdx?, hj]
        simp [Array.getElem?_eq_getElem hjlt]
      refine wpAny_bind (wpAny_dictEntries hob hdb ?_)
      rw [Array.getElem?_eq_getElem hjlt]
      have ey : es'[j].val = y := Option.some.inj (hv'.symm.trans hy)
      rw [← ey, ← hval] at he
      refine wpAny_holding (he _ _ ?_)
      show wpAny _ _ (if (!true) = true then _ else _) _ _ _
      rw [if_neg (by decide)]
      refine wpAny_bind (wpAny_dictEpoch hoa hda ?_)
      rw [if_neg (by simp)]
      exact wpAny_pure ⟨rfl, rfl, x + 1, hrest, hlt⟩
  · rintro q s' ⟨rfl, rfl, i, hr, hi⟩
    exact wpAny_pure h

theorem dict_cmpW {name : String} {A : Around} {s : Shared} {a b : Addr} {ka kb : List (Str × Value)} {E : Value → Shared → Prop} {Q : Value → Shared → Prop} (ha : (a == sysModules) = false) (hb : (b == sysModules) = false)
    (da : s.heap.DictOf (PySem.strKind prog w) a ka) (db : s.heap.DictOf (PySem.strKind prog w) b kb) (hu : A.units < cLine) (hlen : ka.length = kb.length) (hits : ∀ k v, (k, v) ∈ ka → ∃ y, valueAt kb k = some y ∧ EqW prog w A.in1 s v y) :
    ((h : Q (.bool true) s) → wpAny (model prog w) A (richCompare .Eq (.ref a) (.ref b)) Q E s) ∧ ((h : Q (.bool false) s) → wpAny (model prog w) A (richCompare .NotEq (.ref a) (.ref b)) Q E s) := by
  constructor
  · intro h
    refine wpAny_richCompare_same_room (op := .Eq) da.typeIs db.typeIs PySem.F.slot_dict_eq (wpAny_call_entry PySem.F.slot_dict_eq da.typeIs PySem.F.entry_dict_eq ?_ (PySem.F.args_dict_eq_2 _ _)) hu
    show wpAny _ _ (Builtin.Dict.dictSlotArgs "__eq__" ⟨[.ref a, .ref b], []⟩ >>= _) _ _ s
    unfold Builtin.Dict.dictSlotArgs
    refine wpAny_bind (wpAny_bind (wpAny_notOrdered_dict da.typeIs ?_))
    show wpAny _ _ (pure (Value.ref a, Value.ref b)) _ _ s
    refine wpAny_pure (wpAny_bind (wpAny_isInstance (T := "dict") db.typeIs PySem.F.sub_dict_dict ?_))
    simp only [Bool.not_true, Bool.false_eq_true, if_false]
    refine wpAny_bind (wpAny_pure (wpAny_bind (wpAny_pure (wpAny_bind (same_pairsW ha hb da db hlen hits (wpAny_pure ⟨_, rfl, ?_, ?_⟩))))))
    · exact fun x => nomatch x
    · exact h
  · intro h
    refine wpAny_richCompare_same_room (op := .NotEq) da.typeIs db.typeIs PySem.F.slot_dict_ne (wpAny_call_entry PySem.F.slot_dict_ne da.typeIs PySem.F.entry_dict_ne ?_ (PySem.F.args_dict_ne_2 _ _)) hu
    show wpAny _ _ (Builtin.Dict.dictSlotArgs "__ne__" ⟨[.ref a, .ref b], []⟩ >>= _) _ _ s
    unfold Builtin.Dict.dictSlotArgs
    refine wpAny_bind (wpAny_bind (wpAny_notOrdered_dict da.typeIs ?_))
    show wpAny _ _ (pure (Value.ref a, Value.ref b)) _ _ s
    refine wpAny_pure (wpAny_bind (wpAny_isInstance (T := "dict") db.typeIs PySem.F.sub_dict_dict ?_))
    simp only [Bool.not_true, Bool.false_eq_true, if_false]
    refine wpAny_bind (wpAny_pure (wpAny_bind (wpAny_pure (wpAny_bind (same_pairsW ha hb da db hlen hits (wpAny_pure ⟨_, rfl, ?_, ?_⟩))))))
    · exact fun x => nomatch x
    · exact h

theorem RepK.mem : ∀ {kvs : List (Str × Value)} {ds : List (Str × D)}, RepK prog w G kvs ds → ∀ {k : Str} {v : Value}, (k, v) ∈ kvs → ∃ d, (k, d) ∈ ds ∧ Rep prog w G v d
  | _, [], r₀, _, _, m => by rw [r₀.none] at m; cases m
  | _, (k', d') :: ds, r₀, k, v, m => by
    obtain ⟨v', us, rfl, r, l⟩ := r₀.more
    rcases List.mem_cons.mp m with q | m
    · cases q; exact ⟨_, List.mem_cons_self .., r⟩
    · obtain ⟨d, h1, h2⟩ := l.mem m
      exact ⟨d, List.mem_cons_of_mem _ h1, h2⟩

theorem sm_eq : ∀ (n : Nat) {A : Around} {s : Shared} {u v : Value} {d d' : D}, Sm n d d' → Rep prog w G u d → Rep prog w G v d' → (∀ a o, G a = some o → s.heap.get? a = some o) → A.units + 2 * n < cLine → EqW prog w A s u v
  | 0, _, _, _, _, _, _, sm, _, _, _, _ => sm.elim
  | n + 1, A, s, u, v, d, d', sm, ru, rv, hg, hu => by
    cases ru with
    | none | bool | glob | lst | obj => cases rv <;> exact sm.elim
    | int i t =>
      cases rv with
      | int j t' =>
        cases sm
        intro E Q hq
        refine SeqAt.EqAt.int_int (A := A) (s := s) i t i t' prog w E Q ?_
        simpa using hq
      | none | bool | glob | lst | obj | str | tup | dic => exact sm.elim
    | str x t =>
      cases rv with
      | str j t' =>
        cases sm
        intro E Q hq
        refine SeqAt.EqAt.str_str (A := A) (s := s) x t x t' prog w E Q ?_
        simpa using hq
      | none | bool | glob | lst | obj | int | tup | dic => exact sm.elim
    | tup e l =>
      rename_i a vs k ds
      cases rv with
      | none | bool | glob | lst | obj | int | str | dic => exact sm.elim
      | tup e' l' =>
        rename_i b us k' es
        obtain ⟨h1, h2⟩ := sm
        have hl1 := l.length
        have hl2 := l'.length
        refine EqW.refs fun E Q hq => ?_
        refine wpAny_richCompare_same_room (op := .Eq) (T := "tuple") ⟨_, hg _ _ e, rfl⟩ ⟨_, hg _ _ e', rfl⟩ PySem.F.slot_tuple_eq (call_meetsIn PySem.F.slot_tuple_eq ⟨_, hg _ _ e, rfl⟩ PySem.F.entry_tuple_eq (PySem.F.args_tuple_eq_2 _ _) (tuples_eqW (n := k) (n2 := k') (by omega)) ⟨hg _ _ e, hg _ _ e', fun j h1' h2' => ?_, ?_⟩) (Nat.lt_of_le_of_lt (Nat.le_add_right _ _) hu)
        · have hj : j < ds.length := by rw [← hl1]; exact h1'
          have hj' : j < es.length := by rw [← hl2]; exact h2'
          obtain ⟨x, hx, rx⟩ := l.get j ds[j] (List.getElem?_eq_getElem hj)
          obtain ⟨y, hy, ry⟩ := l'.get j es[j] (List.getElem?_eq_getElem hj')
          rw [(List.getElem?_eq_some_iff.mp hx).2, (List.getElem?_eq_some_iff.mp hy).2]
          refine sm_eq n (h2 j _ _ (List.getElem?_eq_getElem hj) (List.getElem?_eq_getElem hj')) rx ry hg ?_
          show A.units + 1 + 2 * n < cLine
          omega
        · exact ⟨(fun x => nomatch x), hq⟩
    | dic ns e i l =>
      rename_i a o kvs ds
      cases rv with
      | none | bool | glob | lst | obj | int | str | tup => exact sm.elim
      | dic ns' e' i' l' =>
        rename_i b o' kvs' es
        obtain ⟨h1, h2⟩ := sm
        refine EqW.refs fun E Q hq => (dict_cmpW (name := "") ns ns' (Heap.dictOf_iff.mpr ⟨o, hg _ _ e, i⟩) (Heap.dictOf_iff.mpr ⟨o', hg _ _ e', i'⟩) (Nat.lt_of_le_of_lt (Nat.le_add_right _ _) hu) (by rw [l.length, l'.length]; exact h1) fun k v m => ?_).1 hq
        obtain ⟨d, hd, rd⟩ := l.mem m
        obtain ⟨d', hd', sm⟩ := h2 k d hd
        obtain ⟨y, hy, ry⟩ := l'.find hd'
        refine ⟨y, hy, sm_eq n sm rd ry hg ?_⟩
        show A.units + 1 + 2 * n < cLine
        omega

theorem J2E.neD {a b : List (Str × D)} {n : Nat} (sm : Sm (n + 1) (.dic a) (.dic b)) (hu : cx.A.units + 2 * (n + 1) < cLine) (z : Ψ (.bool false)) : J2E prog w B cx (compareOp .NotEq) (.dic a) (.dic b) Ψ := fun G s Q E u v o ru rv R => by
  cases ru with
  | dic ns e i l =>
    cases rv with
    | dic ns' e' i' l' =>
      obtain ⟨h1, h2⟩ := sm
      refine (dict_cmpW (name := "") ns ns' (Heap.dictOf_iff.mpr ⟨_, o.keep _ _ e, i⟩) (Heap.dictOf_iff.mpr ⟨_, o.keep _ _ e', i'⟩) (Nat.lt_of_le_of_lt (Nat.le_add_right _ _) hu) (by rw [l.length, l'.length]; exact h1) fun k v m => ?_).2 (R.here o.keep (.bool _) z)
      obtain ⟨d, hd, rd⟩ := l.mem m
      obtain ⟨d', hd', sm⟩ := h2 k d hd
      obtain ⟨y, hy, ry⟩ := l'.find hd'
      refine ⟨y, hy, sm_eq n sm rd ry o.keep ?_⟩
      show cx.A.units + 1 + 2 * n < cLine
      omega

theorem J2E.neL {ss : List Str} (hu : cx.A.units < cLine) (z : Ψ (.bool false)) : J2E prog w B cx (compareOp .NotEq) (.lst (ss.map .str)) (.lst (ss.map .str)) Ψ := fun G s Q E u v o ru rv R => by
  cases ru with
  | lst e l =>
    rename_i a vs n
    cases rv with
    | lst e' l' =>
      rename_i b us n'
      have hl1 := l.length
      have hl2 := l'.length
      refine EqBoolInt.of_rcne (SeqAt.RcNeAt.lists (e := fun _ => true) (lstO_isList (o.keep _ _ e)) (lstO_isList (o.keep _ _ e')) (by simp [hl1, hl2]) hu fun j h1 h2 => ?_) ?_
      · have hj : j < (ss.map D.str).length := by rw [← hl1]; simpa using h1
        obtain ⟨x, hx, rx⟩ := l.get j _ (List.getElem?_eq_getElem hj)
        obtain ⟨y, hy, ry⟩ := l'.get j _ (List.getElem?_eq_getElem hj)
        have ex : vs.toArray[j] = x := by have := (List.getElem?_eq_some_iff.mp hx).2; simpa using this
        have ey : us.toArray[j] = y := by have := (List.getElem?_eq_some_iff.mp hy).2; simpa using this
        rw [ex, ey]
        rw [List.getElem_map] at rx ry
        cases rx with
        | str _ t =>
          cases ry with
          | str _ t' =>
            have := SeqAt.EqAt.str_str (A := cx.A.in1) (s := s) (ss[j]'(by simpa using hj)) t (ss[j]'(by simpa using hj)) t'
            simpa using this
      · have : (!(List.range vs.toArray.size).all fun _ => true) = false := by simp
        rw [this]
        exact R.here o.keep (.bool _) z
end
end

section

noncomputable def Has (ρ : List (Str × D)) : List (Str × D) → Prop
  | [] => True
  | p :: l => ρ.lookup p.1 = some p.2 ∧ Has ρ l
theorem Has.look {ρ : List (Str × D)} : ∀ {l : List (Str × D)}, Has ρ l → ∀ x d, l.lookup x = some d → ρ.lookup x = some d
  | [], _, _, _, e => by cases e
  | p :: l, h, x, d, e => by
    rw [List.lookup_cons] at e
    cases q : x == p.1 with
    | true => rw [q] at e; cases e; rw [beq_iff_eq.mp q]; exact h.1
    | false => rw [q] at e; exact h.2.look x d e

section
variable {prog : Program} {w : World} {K : Frag} {B : Base K} {cx : Cx} {O : List Addr} {G G' : GMap} {h h' : Heap} {ρ : List (Str × D)} {Ψ : D → Prop} {Φ : Fl → List (Str × D) → Prop}

theorem WSs.for {target iter : Expr} {body rest : List Stmt} {p : Pos}
    (x : WI prog w B cx iter target (fun ds => ∃ (σ : Type) (I : List D → σ → Prop) (env : σ → List (Str × D)) (s0 : σ), I ds s0 ∧ Has ρ (env s0) ∧
      (∀ d r s, I (d :: r) s → WT prog w B cx target d (fun ρ'' => WSs prog w B cx body (Turn (Then prog w B cx rest Φ) (fun ρ' => ∃ s', I r s' ∧ Has ρ' (env s'))) ρ'') (env s)) ∧ ∀ s, I [] s → WSs prog w B cx rest Φ (env s)) ρ)
    (hs : ∀ x, foldedSetIterable iter cx.env x = pure x := by intro _; rfl) : WSs prog w B cx (.For target iter body [] p :: rest) Φ ρ := by
  refine WSs.cons (WS.for (fun O G s Q E S tk R => x O G s Q E S tk fun J ds Sg h' tk' G' g e n its sg t z => R J ds Sg h' tk' G' g e n its sg t ?_) hs)
  obtain ⟨σ, I, env, s0, i0, h0, turn, fin⟩ := z
  refine ⟨fun ds ρ => ∃ s, I ds s ∧ Has ρ (env s), ⟨s0, i0, h0⟩, ?_, ?_⟩
  · rintro d r ρ' ⟨s, i, k⟩
    exact fun O G s' Q E v S r' R => turn d r s i O G s' Q E v (S.weaken k.look) r' R
  · rintro ρ' ⟨s, i, k⟩
    exact WSs.weaken k.look (fin s i)

theorem WSs.while {t : Expr} {body rest : List Stmt} {p : Pos} {σ : Type} (I : Nat → σ → Prop) (env : σ → List (Str × D)) (n : Nat) (s0 : σ) (i0 : I n s0) (h0 : Has ρ (env s0))
    (step : ∀ n s, I n s → WB prog w B cx t (fun q => if q = true then WSs prog w B cx body (Turn (Then prog w B cx rest Φ) fun ρ' => ∃ m s', m < n ∧ I m s' ∧ Has ρ' (env s')) (env s) else WSs prog w B cx rest Φ (env s)) (env s)) :
    WSs prog w B cx (.While t body [] p :: rest) Φ ρ := by
  refine WSs.cons (WS.while (fun n ρ => ∃ s, I n s ∧ Has ρ (env s)) ?_ n ⟨s0, i0, h0⟩)
  rintro n ρ' ⟨s, i, k⟩
  refine fun O G s' Q E S tk R => step n s i O G s' Q E (S.weaken k.look) tk fun b h' tk' G' g t z => R b h' tk' G' g t ?_
  cases b with
  | true =>
    refine WSs.weaken k.look ?_
    exact fun O G s Q E S tk R => z O G s Q E S tk fun f fl ρ' h' tk' O' G' st S' fr t y => R f fl ρ' h' tk' O' G' st S' fr t (by
      cases fl with
      | next => obtain ⟨m, s', a, b, c⟩ := y; exact ⟨m, a, s', b, c⟩
      | cont => obtain ⟨m, s', a, b, c⟩ := y; exact ⟨m, a, s', b, c⟩
      | brk => exact y
      | ret d => exact y)
  | false => exact WSs.weaken k.look z

noncomputable def Cut (Φ : Fl → List (Str × D) → Prop) (J : List (Str × D) → Prop) : Fl → List (Str × D) → Prop
  | .next, ρ => J ρ
  | fl, ρ => Φ fl ρ
theorem WSs.cut {st : Stmt} {rest : List Stmt} (σ : Type) (I : σ → Prop) (env : σ → List (Str × D)) (x : WS prog w B cx st (Cut Φ fun ρ' => ∃ s, I s ∧ Has ρ' (env s)) ρ) (y : ∀ s, I s → WSs prog w B cx rest Φ (env s)) : WSs prog w B cx (st :: rest) Φ ρ := by
  refine WSs.cons fun O G s Q E S tk R => x O G s Q E S tk fun f fl ρ' h' tk' O' G' st S' fr t z => R f fl ρ' h' tk' O' G' st S' fr t ?_
  cases fl with
  | next => obtain ⟨s, i, k⟩ := z; exact WSs.weaken k.look (y s i)
  | cont => exact z
  | brk => exact z
  | ret d => exact z
theorem WE.mono {e : Expr} {Ψ' : D → Prop} (x : WE prog w B cx e Ψ ρ) (k : ∀ d, Ψ d → Ψ' d) : WE prog w B cx e Ψ' ρ := fun O G s Q E S tk R => x O G s Q E S tk fun v d h' tk' G' g p t z => R v d h' tk' G' g p t (k d z)
theorem JC.mono {f : Value} {ds : List D} {Ψ' : D → Prop} (x : JC prog w B cx f ds Ψ) (k : ∀ d, Ψ d → Ψ' d) : JC prog w B cx f ds Ψ' := fun G s Q E vs o r R => x G s Q E vs o r fun v d h' tk' G' g p t z => R v d h' tk' G' g p t (k d z)
end
end

section

noncomputable def Cx.comp (cx : Cx) (scope : Scope) (cl : List (Str × Addr)) (C : Addr) (hk : scope.kind = .function) : Cx :=
  { cx with env := compEnvC scope cl C cx.env, mu := [], own := false, pin := none, pinMu := (fun _ q => nomatch q), kind := hk, globals := cx.globals, builtins := cx.builtins }

section
variable {prog : Program} {w : World} {K : Frag} {B : Base K} {cx : Cx} {O : List Addr} {G G' : GMap} {h h' : Heap} {ρ : List (Str × D)} {Ψ : D → Prop} {Φ : Fl → List (Str × D) → Prop}

/-- what a comprehension's free names read -/
structure Free (cx : Cx) (scope : Scope) (cl : List (Str × Addr)) (x : Str) (ρ ρc : List (Str × D)) : Prop where
  look : ∀ y d, ρc.lookup y = some d → ρ.lookup y = some d
  nox : ∀ y d, ρc.lookup y = some d → y ≠ x
  cell : ∀ y d, ρc.lookup y = some d → (cx.env.kindOf y = some .cell ∨ cx.env.kindOf y = some .free) ∧ cl.lookup y = cx.env.cells.lookup y ∧ ((relabel scope cx.env).names.lookup y = some .cell ∨ (relabel scope cx.env).names.lookup y = some .free)

theorem Free.nil {scope : Scope} {cl : List (Str × Addr)} {x : Str} : Free cx scope cl x ρ [] := ⟨fun _ _ e => (nomatch e), fun _ _ e => (nomatch e), fun _ _ e => (nomatch e)⟩

theorem comp_core {elt iter : Expr} {x : Str} {px pos : Pos} {scope : Scope} {cl : List (Str × Addr)} {s₁ : Shared} {I : Addr} {fp : List Addr} {n : Nat} {P : Nat → Value → Prop} {Sg : Nat → Heap → Prop} {vs : List Value} {ds : List D} {RR : Value → Addr → Result → Shared → Prop} {E : Value → Shared → Prop} {ρc : List (Str × D)}
    (S : St prog w B cx O G s₁.heap ρ) (tk : 0 < s₁.toks) (W : Walks prog w cx.A I fp [I] n P Sg) (hP : ∀ i v, P i v → vs[i]? = some v) (hn : n = vs.length) (st0 : Sg 0 s₁.heap) (hfp : ∀ b ∈ fp, ∃ o, s₁.heap.get? b = some o) (hIn : G I = none) (hIf : ∀ i h, Sg i h → ∃ o vs, h.get? I = some o ∧ o.data = .fields vs)
    (l : RepL prog w G vs ds) (f : D → D) (hz : ds.length ≤ 100000) (hkind : scope.kind = .function) (hcell : ∀ y ∈ scope.names, y.2 ≠ .cell) (hx : scope.names.lookup x = some .local) (hfree : Free cx scope cl x ρ ρc)
    (e : ∀ C, ∀ d ∈ ds, WE prog w B (cx.comp scope cl C hkind) elt (fun r => r = f d) ((x, d) :: ρc))
    (fin : ∀ D' C h' tk' G' us nn, GLe G G' → (∀ a o, G' a = some o → h'.get? a = some o) → (∀ b o, b ≠ I → s₁.heap.get? b = some o → h'.get? b = some o) → (∀ b o, s₁.heap.get? b = some o → G b = none → G' b = none) →
      s₁.heap.get? D' = none → s₁.heap.get? C = none → C ≠ D' → I ≠ D' → I ≠ C → G' D' = none → G' C = none → h'.get? D' = some (lstO us nn) → RepL prog w G' us (ds.map f) → (∃ m, h'.Ns C m) → s₁.toks ≤ tk' → RR (.ref D') C (.ok .next) { s₁ with heap := h', toks := tk' }) :
    wpAny (model prog w) cx.A (newList []) (fun acc s₃ => wpAny (model prog w) cx.A (newFunctionEnv scope cx.env.globals cl [] cx.env.qual none .none (some cx.env)) (fun cenv s₄ =>
      codeAny (model prog w) cx.A (.compStart (.ListComp elt [⟨.Name x px, iter, [], 0⟩] scope pos) 0 (.ref I) acc { cenv with scope := relabel scope cx.env }) (RR acc cenv.locals) s₄) E s₃) E s₁ := by
  refine wpAny_newObj_type (wpAny_newFunctionEnv hcell (by intro y hy; simp at hy) (fun h₁ hns₁ hsb₁ => ?_) hkind)
  dsimp only at hns₁ hsb₁ ⊢
  generalize hH2 : s₁.heap.push { cls := .type "list", dict := none, data := .seq ([] : List Value).toArray } = H2 at hns₁ hsb₁ ⊢
  have hC : H2.objs.size = s₁.heap.objs.size + 1 := by rw [← hH2, Heap.size_push]
  have hDC : s₁.heap.objs.size ≠ H2.objs.size := by rw [hC]; exact Nat.ne_of_lt (Nat.lt_succ_self _)
  have nC : s₁.heap.get? H2.objs.size = none := by
    cases q : s₁.heap.get? H2.objs.size with
    | none => rfl
    | some o => have := Heap.lt_size q; rw [hC] at this; exact absurd this (Nat.not_lt.mpr (Nat.le_succ _))
  have nD : s₁.heap.get? s₁.heap.objs.size = none := get_size _
  have ne : ∀ {a b : Addr} {o : Obj}, s₁.heap.get? a = none → s₁.heap.get? b = some o → b ≠ a := fun h1 h2 q => by rw [q, h1] at h2; cases h2
  have old : ∀ b o, s₁.heap.get? b = some o → h₁.get? b = some o := fun b o e => hsb₁.extBut b o (ne nC e) (Heap.get?_push_of_some _ (hH2 ▸ Heap.get?_push_of_some _ e))
  have hacc : h₁.get? s₁.heap.objs.size = some (lstO [] 0) := hsb₁.extBut _ _ hDC (Heap.get?_push_of_some _ (hH2 ▸ Heap.get?_push_size _ rfl))
  have st1 : Sg 0 h₁ := W.frame _ _ _ st0 fun b _ o e => old b o e
  obtain ⟨oI, vI, eI, _⟩ := hIf _ _ st0
  have hI1 : I ≠ s₁.heap.objs.size := ne nD eI
  have hI2 : I ≠ H2.objs.size := ne nC eI
  have S₁ : St prog w B (cx.comp scope cl H2.objs.size hkind) [H2.objs.size] G h₁ ρc := by
    refine ⟨S.base, fun a o e => old a o (S.keep a o e), fun a ha => ?_, fun q => (by cases q), (fun _ q => nomatch q), _, [], hns₁, List.nodup_cons.mpr ⟨by simp, List.nodup_nil⟩, fun a ha => ha, fun y d e => ?_⟩
    · rw [List.mem_singleton.mp ha]
      obtain ⟨o, _, _, e, _⟩ := hns₁
      exact ⟨gnone S.keep nC, o, e⟩
    · obtain ⟨c1, c2, c3⟩ := hfree.cell y d e
      obtain ⟨m, μ, _, _, _, hv⟩ := S.fr
      cases hv y d (hfree.look y d e) with
      | loc z1 => rcases c1 with c1 | c1 <;> (rw [z1] at c1; cases c1)
      | own z1 => rcases c1 with c1 | c1 <;> (rw [z1] at c1; cases c1)
      | cell z1 z2 z3 z4 z5 => exact .cell c3 rfl (c2.trans z3) (z4.keeps old) z5
  have hlen := l.length
  have loop : ∀ s₃ : Shared, s₃ = { s₁ with heap := h₁, toks := s₁.toks + ([] : List (Str × Value)).length } →
      codeAny (model prog w) cx.A (.compLoop (.ListComp elt [⟨.Name x px, iter, [], 0⟩] scope pos) 0 (.ref I) (.ref s₁.heap.objs.size) (compEnvC scope cl H2.objs.size cx.env)) (RR (.ref s₁.heap.objs.size) H2.objs.size) s₃ := by
    rintro s₃ rfl
    refine codeAny_compLoop_list (fun k s' => ∃ (i : Nat) (h' : Heap) (tk' : Nat) (G' : GMap) (us : List Value) (nn : Nat) (ρ' : List (Str × D)), s' = { s₁ with heap := h', toks := tk' } ∧ k + i = n ∧ GLe G G' ∧ (∀ b o, b ≠ I → s₁.heap.get? b = some o → h'.get? b = some o) ∧
      (∀ b o, s₁.heap.get? b = some o → G b = none → G' b = none) ∧ St prog w B (cx.comp scope cl H2.objs.size hkind) [H2.objs.size] G' h' ρ' ∧ (∀ y d, ρc.lookup y = some d → ρ'.lookup y = some d) ∧ Sg i h' ∧ G' I = none ∧ G' s₁.heap.objs.size = none ∧ h'.get? s₁.heap.objs.size = some (lstO us nn) ∧ RepL prog w G' us ((ds.take i).map f) ∧ s₁.toks ≤ tk') ?_ n
      ⟨0, h₁, _, G, [], 0, ρc, rfl, rfl, GLe.refl _, fun b o _ e => old b o e, fun _ _ _ e => e, S₁, fun _ _ e => e, st1, hIn, gnone S.keep nD, hacc, .nil, Nat.le_add_right _ _⟩
    rintro k s' ⟨i, h', tk', G', us, nn, ρ', rfl, hk, gl, od, nw, S', hρ', sg, gI, gD, eD, rl, tt⟩
    obtain ⟨oI', vI', eI', dI'⟩ := hIf _ _ sg
    have hIC : I ∉ [H2.objs.size] := fun q => hI2 (List.mem_singleton.mp q)
    have hDC' : s₁.heap.objs.size ∉ [H2.objs.size] := fun q => hDC (List.mem_singleton.mp q)
    cases k with
    | zero =>
      rw [Nat.zero_add] at hk
      subst hk
      refine wpAny_with_toks (Nat.le_refl tk') (W.done _ _ _ sg fun h₂ tk₂ hk₂ ht₂ => ?_)
      have kk : ∀ b o, b ≠ I → h'.get? b = some o → h₂.get? b = some o := fun b o nb e => hk₂ b o (fun q => nb (List.mem_singleton.mp q)) e
      obtain ⟨m, _, hns, _⟩ := S'.fr
      have hL : G' H2.objs.size = none := (S'.own _ (List.mem_singleton.mpr rfl)).1
      have hds : (ds.take i).map f = ds.map f := by rw [List.take_of_length_le (by omega)]
      rw [hds] at rl
      refine fin s₁.heap.objs.size H2.objs.size h₂ tk₂ G' us nn gl (fun a o e => kk a o (fun q => by rw [q, gI] at e; cases e) (S'.keep a o e)) (fun b o nb e => kk b o nb (od b o nb e)) nw nD nC (Ne.symm hDC) hI1 hI2 gD hL (kk _ _ (Ne.symm hI1) eD) rl ⟨m, ?_⟩ (Nat.le_trans tt ht₂)
      obtain ⟨o, es, ep, z1, z2⟩ := hns
      exact ⟨o, es, ep, kk _ _ (Ne.symm hI2) z1, z2⟩
    | succ k =>
      have hlt : i < n := by omega
      refine wpAny_with_toks (Nat.le_refl tk') (W.item i { s₁ with heap := h', toks := tk' } _ _ hlt sg fun v h₂ tk₂ pv sg₂ hk₂ ht₂ => ?_)
      have kk : ∀ b o, b ≠ I → h'.get? b = some o → h₂.get? b = some o := fun b o nb e => hk₂ b o (fun q => nb (List.mem_singleton.mp q)) e
      have hid : i < ds.length := by omega
      obtain ⟨v', hv', rv⟩ := (l.mono gl).get i ds[i] (List.getElem?_eq_getElem hid)
      have : v' = v := Option.some.inj (hv'.symm.trans (hP i v pv))
      subst this
      have S₂ := S'.moveIt hIC ⟨oI', vI', eI', dI'⟩ kk (GLe.refl _) (fun a o e => kk a o (fun q => by rw [q, gI] at e; cases e) (S'.keep a o e)) fun _ _ _ e => e
      have hxc : (cx.comp scope cl H2.objs.size hkind).env.kindOf x = some .local := lookup_relabel_local hx
      refine wpAny_assign_Name (storeName_plain (cx := cx.comp scope cl H2.objs.size hkind) (s := { s₁ with heap := h₂, toks := tk₂ }) S₂ rv (.inl hxc) rfl fun h₃ tk₃ k₃ S₃ t₃ => ?_)
      have keep3 : ∀ b o, b ≠ H2.objs.size → h₂.get? b = some o → h₃.get? b = some o := fun b o nb e => k₃.keep b o (fun q => nb (List.mem_singleton.mp q)) e
      have fpC : ∀ b ∈ fp, b ≠ H2.objs.size := fun b hb => by obtain ⟨o, eo⟩ := hfp b hb; exact ne nC eo
      have sg₃ : Sg (i + 1) h₃ := W.frame _ _ _ sg₂ fun b hb o e => keep3 b o (fpC b hb) e
      have S₃' : St prog w B (cx.comp scope cl H2.objs.size hkind) [H2.objs.size] G' h₃ ((x, ds[i]) :: ρc) := S₃.weaken fun y d e => by
        by_cases q : y = x
        · subst q; rw [lookup_cons_eq] at e ⊢; exact e
        · rw [lookup_cons_ne q] at e ⊢; exact hρ' y d e
      refine e _ ds[i] (List.getElem_mem hid) _ _ { s₁ with heap := h₃, toks := tk₃ } _ _ S₃' (Nat.lt_of_lt_of_le tk (Nat.le_trans tt (Nat.le_trans ht₂ t₃))) fun u d h₄ tk₄ G₄ k₄ p₄ t₄ z₄ => ?_
      subst z₄
      have eD₄ : h₄.get? s₁.heap.objs.size = some (lstO us nn) := k₄.hh _ _ (keep3 _ _ hDC (kk _ _ (Ne.symm hI1) eD))
      have hul : us.length = i := by rw [rl.length, List.length_map, List.length_take]; omega
      refine call_meets PySem.F.slot_list_append ⟨_, eD₄, rfl⟩ PySem.F.entry_list_append (PySem.F.args_list_append_2 _ _) (PySem.list_append s₁.heap.objs.size us.toArray nn u (by rw [List.size_toArray, hul, sizeLine_eq]; omega)) ⟨eD₄, ?_⟩
      have sb := Heap.SameBut.update h₄ s₁.heap.objs.size (Obj.mapSeq fun xs => xs.push u)
      have eD₅ : ∃ n', (h₄.update s₁.heap.objs.size (Obj.mapSeq fun xs => xs.push u)).get? s₁.heap.objs.size = some (lstO (us ++ [u]) n') := by
        have hh : (us.toArray.push u) = (us ++ [u]).toArray := by simp
        have := (lstO_IsL eD₄).update fun xs => xs.push u
        rw [hh] at this
        exact ⟨_, this⟩
      obtain ⟨n', eD₅⟩ := eD₅
      have gD₄ : G₄ s₁.heap.objs.size = none := k₄.new _ _ (keep3 _ _ hDC (kk _ _ (Ne.symm hI1) eD)) gD
      have keep5 : ∀ b o, b ≠ s₁.heap.objs.size → h₄.get? b = some o → (h₄.update s₁.heap.objs.size (Obj.mapSeq fun xs => xs.push u)).get? b = some o := fun b o nb e => (sb.2 b nb).trans e
      have S₄ := S₃'.grow k₄
      have S₅ : St prog w B (cx.comp scope cl H2.objs.size hkind) [H2.objs.size] G₄ (h₄.update s₁.heap.objs.size (Obj.mapSeq fun xs => xs.push u)) ((x, ds[i]) :: ρc) := by
        have neG : ∀ a o, G₄ a = some o → a ≠ s₁.heap.objs.size := fun a o e q => by rw [q, gD₄] at e; cases e
        refine ⟨S₄.base, fun a o e => keep5 a o (neG a o e) (S₄.keep a o e), fun a ha => ?_, fun q => (by cases q), (fun _ q => nomatch q), ?_⟩
        · obtain ⟨z, o, eo⟩ := S₄.own a ha
          rw [List.mem_singleton.mp ha] at z eo ⊢
          exact ⟨z, o, keep5 _ _ (Ne.symm hDC) eo⟩
        · obtain ⟨m, μ, hns, hnd, hin, hv⟩ := S₄.fr
          refine ⟨m, μ, hns.sameBut sb (Ne.symm hDC), hnd, hin, fun y d e => ?_⟩
          cases hv y d e with
          | loc z1 z2 z3 z4 => exact .loc z1 z2 z3 z4
          | own z1 z2 => cases z2
          | cell z1 z2 z3 z4 z5 =>
            rename_i c _
            refine .cell z1 z2 z3 (z4.sameBut sb fun q => ?_) z5
            subst q
            obtain ⟨o, a1, a2⟩ := z4
            rw [eD₄] at a1; cases a1; cases a2
      have oI4 : ∀ o, h₃.get? I = some o → h₄.get? I = some o := fun o e => k₄.hh _ _ e
      refine ⟨k, Nat.lt_succ_self _, i + 1, _, tk₄, G₄, us ++ [u], n', (x, ds[i]) :: ρc, rfl, by omega, gl.trans k₄.gg, fun b o nb e => ?_, fun b o e ng => ?_, S₅, fun y d e => ?_, ?_, ?_, gD₄, eD₅, ?_, Nat.le_trans tt (Nat.le_trans ht₂ (Nat.le_trans t₃ t₄))⟩
      · exact keep5 b o (ne nD e) (k₄.hh _ _ (keep3 b o (ne nC e) (kk b o nb (od b o nb e))))
      · by_cases qi : b = I
        · obtain ⟨oI₂, vI₂, eI₂, _⟩ := hIf _ _ sg₃
          rw [qi]; exact k₄.new _ _ eI₂ gI
        · exact k₄.new b o (keep3 b o (ne nC e) (kk b o qi (od b o qi e))) (nw b o e ng)
      · have := hfree.nox y d e
        rw [lookup_cons_ne this]; exact e
      · refine W.frame _ _ _ sg₃ fun b hb o e => keep5 b o ?_ (k₄.hh _ _ e)
        obtain ⟨o', eo⟩ := hfp b hb
        exact ne nD eo
      · obtain ⟨oI₂, vI₂, eI₂, _⟩ := hIf _ _ sg₃
        exact k₄.new _ _ eI₂ gI
      · have : (ds.take (i + 1)).map f = (ds.take i).map f ++ [f ds[i]] := by
          rw [List.take_succ_eq_append_getElem hid, List.map_append]; rfl
        rw [this]
        exact (rl.mono k₄.gg).append (.single p₄)
  exact codeAny_compStart_list (loop _ rfl) (W.self 0 _ _ _ st1 (loop _ rfl))
end
end

section
section
variable {prog : Program} {w : World} {K : Frag} {B : Base K} {cx : Cx} {O : List Addr} {G G' : GMap} {h h' : Heap} {ρ : List (Str × D)} {Ψ : D → Prop} {Φ : Fl → List (Str × D) → Prop}

/-- what a comprehension walks -/
noncomputable def WC (prog : Program) (w : World) {K : Frag} (B : Base K) (cx : Cx) (e : Expr) (Ψ : List D → Prop) (ρ : List (Str × D)) : Prop :=
  ∀ O G (s : Shared) (Q : Value → Shared → Prop) (E : Value → Shared → Prop), St prog w B cx O G s.heap ρ → 0 < s.toks →
    (∀ I fp n P Sg (vs : List Value) ds h' tk' G', Grow G s.heap G' h' → s.heap.get? I = none → Walks prog w cx.A I fp [I] n P Sg → (∀ i v, P i v → vs[i]? = some v) → n = vs.length → Sg 0 h' → (∀ b ∈ fp, ∃ o, h'.get? b = some o) → G' I = none →
      (∀ i h, Sg i h → ∃ o vs, h.get? I = some o ∧ o.data = .fields vs) → RepL prog w G' vs ds → s.toks ≤ tk' → Ψ ds → Q (.ref I) { s with heap := h', toks := tk' }) →
    wpAny (model prog w) cx.A (eval e cx.env) (fun x s₁ => wpAny (model prog w) cx.A (pyIter x) Q E s₁) E s

theorem WC.of {e : Expr} {Ψ : List D → Prop} (x : WV prog w B cx e (fun d => ∃ ds, (d = .lst ds ∨ d = .tup ds) ∧ Ψ ds) ρ) : WC prog w B cx e Ψ ρ := fun O G s Q E S tk R => by
  refine x O G s _ E S tk fun v d h₁ t₁ G₁ k₁ p₁ u₁ z₁ => ?_
  obtain ⟨ds, hd, z⟩ := z₁
  rcases hd with rfl | rfl
  · obtain ⟨a, vs, n, rfl, e, l⟩ := p₁.lstAt k₁.gh
    refine wpAny_pyIter_list (s := { s with heap := h₁, toks := t₁ }) (lstO_isList e) ?_
    have g := Grow.heap k₁.gh (h' := h₁.push { cls := .type "list_iterator", data := .fields #[.ref a, .int 0 0] }) fun b o e => Heap.get?_push_of_some _ e
    have hne : a ≠ h₁.objs.size := Nat.ne_of_lt (Heap.lt_size e)
    refine R h₁.objs.size _ _ _ _ vs ds _ t₁ G₁ (k₁.trans g) (new_trans k₁.hh (get_size _)) (Walks.list cx.handled h₁.objs.size a hne vs.toArray) (fun i v hv => by simpa using hv) (by simp) ⟨⟨_, Heap.get?_push_size _ rfl, rfl, rfl⟩, lstO_isList (g.hh _ _ e)⟩ (fun b hb => ?_) (gnone k₁.gh (get_size _)) (fun i h st => by obtain ⟨⟨o, e, _, hd⟩, _⟩ := st; exact ⟨o, _, e, hd⟩) l u₁ z
    rcases List.mem_cons.mp hb with rfl | hb
    · exact ⟨_, Heap.get?_push_size _ rfl⟩
    · rw [List.mem_singleton.mp hb]; exact ⟨_, g.hh _ _ e⟩
  · obtain ⟨a, vs, n, rfl, e, l⟩ := p₁.tupAt
    have e' := k₁.gh _ _ e
    refine wpAny_pyIter_tuple (s := { s with heap := h₁, toks := t₁ }) ⟨_, e', rfl, n, rfl⟩ ?_
    have g := Grow.heap k₁.gh (h' := h₁.push { cls := .type "tuple_iterator", data := .fields #[.ref a, .int 0 0] }) fun b o e => Heap.get?_push_of_some _ e
    have hne : a ≠ h₁.objs.size := Nat.ne_of_lt (Heap.lt_size e')
    refine R h₁.objs.size _ _ _ _ vs ds _ t₁ G₁ (k₁.trans g) (new_trans k₁.hh (get_size _)) (Walks.tuple cx.handled h₁.objs.size a hne vs.toArray) (fun i v hv => by simpa using hv) (by simp) ⟨⟨_, Heap.get?_push_size _ rfl, rfl, rfl⟩, ⟨_, g.hh _ _ e', rfl, n, rfl⟩⟩ (fun b hb => ?_) (gnone k₁.gh (get_size _)) (fun i h st => by obtain ⟨⟨o, e, _, hd⟩, _⟩ := st; exact ⟨o, _, e, hd⟩) l u₁ z
    rcases List.mem_cons.mp hb with rfl | hb
    · exact ⟨_, Heap.get?_push_size _ rfl⟩
    · rw [List.mem_singleton.mp hb]; exact ⟨_, g.hh _ _ e'⟩

noncomputable def CompOk (prog : Program) (w : World) {K : Frag} (B : Base K) (cx : Cx) (scope : Scope) (cl : List (Str × Addr)) (hkind : scope.kind = .function) (x : Str) (elt : Expr) (ρc : List (Str × D)) (ds : List D) (f : D → D) : Prop :=
  ds.length ≤ 100000 ∧ ∀ C, ∀ d ∈ ds, WE prog w B (cx.comp scope cl C hkind) elt (fun r => r = f d) ((x, d) :: ρc)

theorem WE.comp {elt iter : Expr} {x : Str} {px pos : Pos} {scope : Scope} (cl : List (Str × Addr)) (ρc : List (Str × D)) (hkind : scope.kind = .function)
    (y : WC prog w B cx iter (fun ds => ∃ f, CompOk prog w B cx scope cl hkind x elt ρc ds f ∧ Ψ (.lst (ds.map f))) ρ)
    (hclos : closureFor scope cx.env = pure cl) (hcell : ∀ y ∈ scope.names, y.2 ≠ .cell) (hnames : ∀ y ∈ scope.names, y.2 = .local → scope.names.lookup y.1 = some .local) (hx : scope.names.lookup x = some .local) (hfree : Free cx scope cl x ρ ρc)
    (hs : ∀ x, foldedSetIterable iter cx.env x = pure x := by intro _; rfl) : WE prog w B cx (.ListComp elt [⟨.Name x px, iter, [], 0⟩] scope pos) Ψ ρ := fun O G s Q E S tk R => by
  rw [eval_ListComp]
  refine wpAny_comprehension_free (use := Option.none) rfl hs hclos hkind hnames (y O G s _ E S tk fun I fp n P Sg vs ds h₁ tk₁ G₁ k₁ nI W hP hn st0 hfp gI hIf l t₁ z => ?_)
  obtain ⟨f, ⟨hz, e⟩, z⟩ := z
  refine comp_core (s₁ := { s with heap := h₁, toks := tk₁ }) (S.grow k₁) (Nat.lt_of_lt_of_le tk t₁) W hP hn st0 hfp gI hIf l f hz hkind hcell hx hfree e fun D' C h₂ tk₂ G₂ us nn gl gh od nw nD nC nCD nID nIC gD gC eD rl hm t₂ => ?_
  obtain ⟨m, hm⟩ := hm
  refine ⟨m, hm, fun h₃ hs₃ => ?_⟩
  have new : ∀ {a b : Addr} {o : Obj}, h₁.get? a = Option.none → s.heap.get? b = some o → b ≠ a := fun h1 h2 q => by have := k₁.hh _ _ h2; rw [q, h1] at this; cases this
  have gg : GLe G₂ (G₂.put D' (lstO us nn)) := GMap.put_le gD
  refine R _ (.lst (ds.map f)) h₃ tk₂ (G₂.put D' (lstO us nn)) ⟨(k₁.gg.trans gl).trans gg, fun b o e => ?_, fun b o e => ?_, fun b o e ng => ?_⟩ (.lst (GMap.put_self ..) (rl.mono gg)) (Nat.le_trans t₁ t₂) z
  · by_cases q : b = D'
    · subst q; rw [GMap.put_self] at e; cases e; exact (hs₃.2 _ (Ne.symm nCD)).trans eD
    · rw [GMap.put_ne q] at e
      exact (hs₃.2 b (fun z => by rw [z, gC] at e; cases e)).trans (gh b o e)
  · refine (hs₃.2 b (new nC e)).trans (od b o (fun q => by rw [q, nI] at e; cases e) (k₁.hh _ _ e))
  · rw [GMap.put_ne (new nD e)]
    exact nw b o (k₁.hh _ _ e) (k₁.new b o e ng)

/-- a comprehension stored at once -/
theorem WS.assignComp {elt iter : Expr} {x y : Str} {px py pos spos : Pos} {scope : Scope} (cl : List (Str × Addr)) (ρc : List (Str × D)) (hkind : scope.kind = .function)
    (u : WC prog w B cx iter (fun ds => ∃ f, CompOk prog w B cx scope cl hkind x elt ρc ds f ∧ Φ .next ((y, .lst (ds.map f)) :: ρ)) ρ)
    (hy : CanStore cx y) (hclos : closureFor scope cx.env = pure cl) (hcell : ∀ y ∈ scope.names, y.2 ≠ .cell) (hnames : ∀ y ∈ scope.names, y.2 = .local → scope.names.lookup y.1 = some .local) (hx : scope.names.lookup x = some .local) (hfree : Free cx scope cl x ρ ρc)
    (hsw : swapsWith (.ListComp elt [⟨.Name x px, iter, [], 0⟩] scope pos) (some (.Name y py)) spos.line cx.env = pure true) (hs : ∀ x, foldedSetIterable iter cx.env x = pure x := by intro _; rfl) :
    WS prog w B cx (.Assign [.Name y py] (.ListComp elt [⟨.Name x px, iter, [], 0⟩] scope pos) spos) Φ ρ := fun O G s Q E S tk R => by
  rw [exec_Assign_Name_used _ _ _ _ hsw]
  refine wpAny_bind (wpAny_standAt (wpAny_bind ?_))
  show wpAny _ cx.A (do let _ ← comprehension (Expr.ListComp elt [⟨Expr.Name x px, iter, [], 0⟩] scope pos) scope cx.env _ (newList []) false (eval iter cx.env) (some (PySem.assign (Expr.Name y py) cx.env))) _ _ s
  refine wpAny_bind (wpAny_mono (wpAny_comprehension_free (use := some (PySem.assign (Expr.Name y py) cx.env)) (Q := fun _ s' => Q .next s') rfl hs hclos hkind hnames
    (u O G s _ E S tk fun I fp n P Sg vs ds h₁ tk₁ G₁ k₁ nI W hP hn st0 hfp gI hIf l t₁ z => ?_)) (fun _ s' hq => wpAny_pure (wpAny_pure hq)) fun _ _ e => e)
  obtain ⟨f, ⟨hz, e⟩, z⟩ := z
  refine comp_core (s₁ := { s with heap := h₁, toks := tk₁ }) (S.grow k₁) (Nat.lt_of_lt_of_le tk t₁) W hP hn st0 hfp gI hIf l f hz hkind hcell hx hfree e fun D' C h₂ tk₂ G₂ us nn gl gh od nw nD nC nCD nID nIC gD gC eD rl hm t₂ => ?_
  obtain ⟨m, hm⟩ := hm
  have new : ∀ {a b : Addr} {o : Obj}, h₁.get? a = Option.none → s.heap.get? b = some o → b ≠ a := fun h1 h2 q => by have := k₁.hh _ _ h2; rw [q, h1] at this; cases this
  have gg : GLe G₂ (G₂.put D' (lstO us nn)) := GMap.put_le gD
  have g : Grow G s.heap (G₂.put D' (lstO us nn)) h₂ := by
    refine ⟨(k₁.gg.trans gl).trans gg, fun b o e => ?_, fun b o e => od b o (fun q => by rw [q, nI] at e; cases e) (k₁.hh _ _ e), fun b o e ng => ?_⟩
    · by_cases q : b = D'
      · subst q; rw [GMap.put_self] at e; cases e; exact eD
      · rw [GMap.put_ne q] at e; exact gh b o e
    · rw [GMap.put_ne (new nD e)]
      exact nw b o (k₁.hh _ _ e) (k₁.new b o e ng)
  have CnO : C ∉ O := fun q => by
    obtain ⟨_, o, e⟩ := S.own _ q
    exact new nC e rfl
  show wpAny _ cx.A (PySem.assign (Expr.Name y py) cx.env (.ref D')) _ _ _
  refine wpAny_assign_Name (storeName_plain (s := { s with heap := h₂, toks := tk₂ }) (S.grow g) (.lst (GMap.put_self ..) (rl.mono gg)) hy.1 hy.2 fun h₃ tk₃ k₃ S₃ t₃ => ?_)
  obtain ⟨oC, es, ep, c1, c2⟩ := hm
  have eC : h₃.get? C = some oC := k₃.keep _ _ CnO c1
  refine ⟨m, ⟨oC, es, ep, eC, c2⟩, fun h₄ hs₄ => ?_⟩
  have neO : ∀ b ∈ O, b ≠ C := fun b hb q => CnO (q ▸ hb)
  have gC' : (G₂.put D' (lstO us nn)) C = none := by rw [GMap.put_ne nCD]; exact gC
  have st4 : Step O G s.heap O (G₂.put D' (lstO us nn)) h₄ := by
    have k := (Step.grow S g).trans k₃
    refine ⟨fun b hb => by obtain ⟨o, eo⟩ := k.al b hb; exact ⟨o, (hs₄.2 b (neO b hb)).trans eo⟩, k.on, fun b hb => ?_, k.gg, fun b o nb e => (hs₄.2 b (new nC e)).trans (k.keep b o nb e), k.new⟩
    obtain ⟨o, eo⟩ := k.ex b hb
    exact ⟨o, (hs₄.2 b (neO b hb)).trans eo⟩
  have S₄ : St prog w B cx O (G₂.put D' (lstO us nn)) h₄ ((y, .lst (ds.map f)) :: ρ) := by
    refine ⟨S₃.base, fun a o e => (hs₄.2 a (fun q => by rw [q, gC'] at e; cases e)).trans (S₃.keep a o e), fun a ha => ?_, fun ho => ⟨(S₃.cells ho).1, fun p hp => ?_⟩, fun p hp => ?_, ?_⟩
    · obtain ⟨z1, o, z2⟩ := S₃.own a ha
      exact ⟨z1, o, (hs₄.2 a (neO a ha)).trans z2⟩
    · obtain ⟨z1, v, z2⟩ := (S₃.cells ho).2 p hp
      exact ⟨z1, v, z2.sameBut hs₄ (neO _ z1)⟩
    · obtain ⟨m₁, e1, e2⟩ := S₃.pin p hp
      obtain ⟨m', μ, hns, hnd, hin, hv⟩ := S₃.fr
      exact ⟨m₁, e1.sameBut hs₄ (neO _ (hin _ (List.mem_cons_self ..))), e2⟩
    · obtain ⟨m', μ, hns, hnd, hin, hv⟩ := S₃.fr
      refine ⟨m', μ, hns.sameBut hs₄ (neO _ (hin _ (List.mem_cons_self ..))), hnd, hin, fun yy d e => ?_⟩
      cases hv yy d e with
      | loc z1 z2 z3 z4 => exact .loc z1 z2 z3 z4
      | own z1 z2 z3 z4 z5 =>
        rename_i a v
        exact .own z1 z2 z3 z4 (z5.grow (GLe.refl _) (hs₄.2 a (neO a (hin _ (List.mem_cons_of_mem _ (List.mem_map.mpr ⟨(yy, a), mem_of_lookup z3, rfl⟩))))))
      | cell z1 z2 z3 z4 z5 =>
        rename_i c v
        refine .cell z1 z2 z3 (z4.sameBut hs₄ fun q => ?_) z5
        subst q
        obtain ⟨o, a1, a2⟩ := z4
        rw [eC] at a1; cases a1
        rw [c2.1] at a2; cases a2
  exact R .next .next _ h₄ _ O _ st4 S₄ trivial (Nat.le_trans (Nat.le_trans t₁ t₂) t₃) z
end
end

section

/-- a sort's questions, answered from a table -/
noncomputable def kRun {α : Type} (f : Nat → Nat → Option Bool) : KasT α → Option α
  | .ret a => some a
  | .ask i j k => match f i j with
    | some b => kRun f (k b)
    | none => none
theorem kRun_wp {α : Type} {cmp : Nat → Nat → (Bool → Shared → Prop) → Shared → Prop} {f : Nat → Nat → Option Bool} {Q : α → Shared → Prop} {s : Shared} (hc : ∀ i j b, f i j = some b → ∀ C, C b s → cmp i j C s) : ∀ {t : KasT α} {a : α}, kRun f t = some a → Q a s → t.kasWp cmp Q s
  | .ret _, _, e, q => by cases e; exact q
  | .ask i j k, a, e, q => by
    unfold kRun at e
    cases z : f i j with
    | none => rw [z] at e; cases e
    | some b => rw [z] at e; exact hc i j b z _ (kRun_wp hc (t := k b) e q)

noncomputable def tbl (b01 b02 b12 : Bool) (i j : Nat) : Option Bool :=
  if i = 0 ∧ j = 1 then some b01 else if i = 1 ∧ j = 0 then some (!b01) else if i = 0 ∧ j = 2 then some b02 else if i = 2 ∧ j = 0 then some (!b02) else if i = 1 ∧ j = 2 then some b12 else if i = 2 ∧ j = 1 then some (!b12) else none
noncomputable def order3 (b01 b02 b12 : Bool) : List Nat :=
  if b01 then (if b12 then [0, 1, 2] else if b02 then [0, 2, 1] else [2, 0, 1]) else (if b02 then [1, 0, 2] else if b12 then [1, 2, 0] else [2, 1, 0])
theorem run3 (b01 b02 b12 : Bool) (h : ¬(b01 = true ∧ b12 = true ∧ b02 = false)) (h' : ¬(b01 = false ∧ b12 = false ∧ b02 = true)) : kRun (tbl b01 b02 b12) (kas_sort 3) = some (order3 b01 b02 b12).toArray := by
  cases b01 <;> cases b02 <;> cases b12 <;> first | rfl | (exact absurd ⟨rfl, rfl, rfl⟩ h) | (exact absurd ⟨rfl, rfl, rfl⟩ h') | decide +kernel

section
variable {prog : Program} {w : World} {K : Frag} {B : Base K} {cx : Cx} {O : List Addr} {G G' : GMap} {h h' : Heap} {ρ : List (Str × D)} {Ψ : D → Prop} {Φ : Fl → List (Str × D) → Prop}

/-- three are sorted in place, no question touching the heap -/
theorem sort_run {A : Around} {E : Value → Shared → Prop} {s : Shared} {a : Addr} {n : Nat} {vs : List Value} {P : PySem.Fin → Shared → Prop} {κ : SortKind} {f : Nat → Nat → Option Bool} {p : Array Nat} (ho : s.heap.get? a = some (seqObj "list" vs.toArray n)) (h2 : 2 ≤ vs.length) (h64 : vs.length < 64)
    (hκ : ∀ (s' : Shared) (Q : SortKind → Shared → Prop), (∀ b o, b ≠ a → s.heap.get? b = some o → s'.heap.get? b = some o) → Q κ s' → wpAny (model prog w) A (keyKind' vs.toArray) Q (fun _ _ => False) s')
    (hc : ∀ (s' : Shared), (∀ b o, b ≠ a → s.heap.get? b = some o → s'.heap.get? b = some o) → ∀ i j b, f i j = some b → ∀ C : Bool → Shared → Prop, C b s' → kas_ask prog w A κ vs i j C s') (hp : kRun f (kas_sort vs.length) = some p)
    (hps : p.size = vs.length) (h : ∀ h' c, (∀ b o, b ≠ a → s.heap.get? b = some o → h'.get? b = some o) → h'.get? a = some (seqObj "list" (List.toArray (p.toList.map fun i => vs.getD i Value.none)) c) → P (.done (.ret .none)) { s with heap := h' }) :
    wpAny (model prog w) A (Builtin.«list.sort» ⟨[.ref a], []⟩) P E s := by
  have ha : a < s.heap.objs.size := Heap.lt_size ho
  have s1 := Heap.SameBut.update s.heap a (Obj.mapSeq fun _ => (#[] : Array Value))
  obtain ⟨e1, ho1⟩ : ∃ e1, (s.heap.update a (Obj.mapSeq fun _ => (#[] : Array Value))).get? a = some (seqObj "list" #[] e1) := ⟨_, get?_update_seq ho fun _ => #[]⟩
  have old : ∀ b o, b ≠ a → s.heap.get? b = some o → (((s.heap.update a (Obj.mapSeq fun _ => (#[] : Array Value))).push (seqObj "tuple" vs.toArray 0)).push (seqObj "list" #[] 0)).get? b = some o :=
    fun b o nb e => Heap.get?_push_of_some _ (Heap.get?_push_of_some _ ((s1.2 b nb).trans e))
  have hoa : (((s.heap.update a (Obj.mapSeq fun _ => (#[] : Array Value))).push (seqObj "tuple" vs.toArray 0)).push (seqObj "list" #[] 0)).get? a = some (seqObj "list" #[] e1) := Heap.get?_push_of_some _ (Heap.get?_push_of_some _ ho1)
  rw [list_sort_plain]
  refine wpAny_bind (listItems_at ho rfl (wpAny_bind (listUpdate_at ho rfl ?_ (by rw [List.size_toArray, sizeLine_eq]; omega) (Nat.zero_le _))))
  refine wpAny_bind (seqEpoch_at ho1 rfl (wpAny_bind (wpAny_newTuple ?_ (by show vs.length ≤ _; rw [sizeLine_eq]; omega))))
  refine wpAny_bind (wpAny_newList ?_ (Nat.zero_le _))
  refine wpAny_holding ?_
  show wpAny (model prog w) A _ P E { s with heap := ((s.heap.update a (Obj.mapSeq fun _ => (#[] : Array Value))).push (seqObj "tuple" vs.toArray 0)).push (seqObj "list" #[] 0) }
  dsimp only
  have hn2 : ¬ vs.toArray.size < 2 := by rw [List.size_toArray]; omega
  rw [if_neg hn2, if_neg hn2]
  refine wpAny_bind (wpAny_mono (hκ _ (fun κ' s' => κ' = κ ∧ s' = { s with heap := ((s.heap.update a (Obj.mapSeq fun _ => (#[] : Array Value))).push (seqObj "tuple" vs.toArray 0)).push (seqObj "list" #[] 0) }) old ⟨rfl, rfl⟩) (fun κ' s' hk => ?_) fun _ _ x => x.elim)
  obtain ⟨rfl, rfl⟩ := hk
  refine wpAny_bind (wpAny_mono (kat_run (Q := fun st' s' => ∃ q : Array Nat, q = p ∧ arrOf st' = q.map (kas_item (vs.toArray.zip vs.toArray)) ∧ failedOf st' = none ∧ s' = { s with heap := ((s.heap.update a (Obj.mapSeq fun _ => (#[] : Array Value))).push (seqObj "tuple" vs.toArray 0)).push (seqObj "list" #[] 0) })
    (G := fun q s' => q = p ∧ s' = { s with heap := ((s.heap.update a (Obj.mapSeq fun _ => (#[] : Array Value))).push (seqObj "tuple" vs.toArray 0)).push (seqObj "list" #[] 0) })
    rfl h2 h64 (fun q st' s' _ a2 a3 a4 => ⟨q, a4.1, a2, a3, a4.2⟩) (kRun_wp (hc _ old) hp ⟨rfl, rfl⟩)) ?_ fun _ _ e => e)
  rintro ⟨⟨⟩, st'⟩ s' ⟨q, rfl, har, hf, rfl⟩
  dsimp only
  have hout := kat_snds rfl har
  have hsz : (List.toArray (q.toList.map fun i => vs.getD i Value.none)).size = vs.length := by rw [List.size_toArray, List.length_map, Array.length_toList, hps]
  rw [hout]
  have s2 := Heap.SameBut.update (((s.heap.update a (Obj.mapSeq fun _ => (#[] : Array Value))).push (seqObj "tuple" vs.toArray 0)).push (seqObj "list" #[] 0)) a (Obj.mapSeq fun _ => List.toArray (q.toList.map fun i => vs.getD i Value.none))
  refine wpAny_bind (seqEpoch_at hoa rfl ?_)
  refine wpAny_bind (listUpdate_at hoa rfl ?_ (Nat.zero_le _) (Nat.le_trans (Nat.le_of_eq hsz) (by rw [sizeLine_eq]; omega)))
  rw [hf]
  simp only [bne_self_eq_false, Bool.false_eq_true, if_false]
  exact wpAny_pure (h _ _ (fun b o nb e => (s2.2 b nb).trans (old b o nb e)) (get?_update_seq hoa fun _ => List.toArray (q.toList.map fun i => vs.getD i Value.none)))

theorem sorted_run {A : Around} {E : Value → Shared → Prop} {s : Shared} {l : Addr} {vs : List Value} {Q : Value → Shared → Prop} {κ : SortKind} {f : Nat → Nat → Option Bool} {p : Array Nat} (hl : s.heap.IsList l vs.toArray) (h2 : 2 ≤ vs.length) (h64 : vs.length < 64)
    (hκ : ∀ (s' : Shared) (Q : SortKind → Shared → Prop), (∀ b o, s.heap.get? b = some o → s'.heap.get? b = some o) → Q κ s' → wpAny (model prog w) A.in1.in1 (keyKind' vs.toArray) Q (fun _ _ => False) s')
    (hc : ∀ (s' : Shared), (∀ b o, s.heap.get? b = some o → s'.heap.get? b = some o) → ∀ i j b, f i j = some b → ∀ C : Bool → Shared → Prop, C b s' → kas_ask prog w A.in1.in1 κ vs i j C s') (hp : kRun f (kas_sort vs.length) = some p)
    (hps : p.size = vs.length) (h : ∀ D h' c, s.heap.get? D = none → (∀ b o, s.heap.get? b = some o → h'.get? b = some o) → h'.get? D = some (lstO (p.toList.map fun i => vs.getD i Value.none) c) → Q (.ref D) { s with heap := h' }) :
    wpAny (model prog w) A (call (.builtin "sorted") [.ref l]) Q E s := by
  refine Calls.call_function_entry kind_sorted plain_sorted entry_sorted (args_sorted1 _) ?_
  unfold Builtin.«sorted»
  refine wpAny_bind (m := checkCount "sorted" 1 1 _) (wpAny_pure ?_)
  refine wpAny_bind (collect_list hl ?_ (by rw [sizeLine_eq]; omega))
  refine wpAny_bind (wpAny_newList ?_ (by rw [sizeLine_eq]; omega))
  have hsz : ((s.heap.push (seqObj "list" #[] 0)).update s.heap.objs.size (Obj.mapSeq (· ++ vs.toArray))).objs.size = s.heap.objs.size + 1 := by
    rw [Heap.size_update, Heap.size_push]
  have hoL : (((s.heap.push (seqObj "list" #[] 0)).update s.heap.objs.size (Obj.mapSeq (· ++ vs.toArray))).push (seqObj "list" vs.toArray 0)).get? (s.heap.objs.size + 1) = some (seqObj "list" vs.toArray 0) := by
    rw [← hsz]; exact Heap.get?_push_size _ rfl
  have keep : ∀ b o, s.heap.get? b = some o → (((s.heap.push (seqObj "list" #[] 0)).update s.heap.objs.size (Obj.mapSeq (· ++ vs.toArray))).push (seqObj "list" vs.toArray 0)).get? b = some o := fun b o q => by
    have hne : b ≠ s.heap.objs.size := Nat.ne_of_lt (Heap.lt_size q)
    exact Heap.get?_push_of_some _ (((Heap.SameBut.update _ _ _).2 b hne).trans (Heap.get?_push_of_some _ q))
  have nD : s.heap.get? (s.heap.objs.size + 1) = none := by
    cases q : s.heap.get? (s.heap.objs.size + 1) with
    | none => rfl
    | some ob => exact absurd (Heap.lt_size q) (Nat.not_lt.mpr (Nat.le_succ _))
  have ne : ∀ b o, s.heap.get? b = some o → b ≠ s.heap.objs.size + 1 := fun b o e q => by rw [q, nD] at e; cases e
  show wpAny _ _ _ _ _ { s with heap := ((s.heap.push (seqObj "list" #[] 0)).update s.heap.objs.size (Obj.mapSeq (· ++ vs.toArray))).push (seqObj "list" vs.toArray 0) }
  rw [hsz]
  refine wpAny_bind (wpAny_holding (wpAny_call_entry slot_list_sort ⟨_, hoL, rfl⟩ entry_list_sort ?body (args_list_sort _)))
  case body =>
    refine sort_run (s := { s with heap := ((s.heap.push (seqObj "list" #[] 0)).update s.heap.objs.size (Obj.mapSeq (· ++ vs.toArray))).push (seqObj "list" vs.toArray 0) }) hoL h2 h64 (κ := κ) (f := f) (p := p) (fun s' Q k q => hκ s' Q (fun b o e => k b o (ne b o e) (keep b o e)) q) (fun s' k => hc s' fun b o e => k b o (ne b o e) (keep b o e)) hp hps fun h' c k e => ?_
    exact ⟨_, rfl, wpAny_pure ⟨_, rfl, h _ h' c nD (fun b o e => k b o (ne b o e) (keep b o e)) e⟩⟩

noncomputable abbrev pairD (p : Str × Str) : D := .tup [.str p.1, .str p.2]
noncomputable abbrev sLt (x y : Str) : Prop := x.cps.toList < y.cps.toList

theorem J1.sorted3 {a b c : Str × Str} (hab : a.1 ≠ b.1) (hac : a.1 ≠ c.1) (hbc : b.1 ≠ c.1) (z : ∀ out : List (Str × Str), out.Perm [a, b, c] → out.Pairwise (fun x y => sLt x.1 y.1) → Ψ (.lst (out.map pairD))) :
    J1 prog w B cx (fun v => call (.builtin "sorted") [v] []) (.lst [pairD a, pairD b, pairD c]) Ψ := fun G s Q E u o p R => by
  obtain ⟨l, vs, n, rfl, e, r⟩ := p.lstAt o.keep
  have key : ∀ (v : Value) (q : Str × Str), Rep prog w G v (pairD q) → ∃ x t t' k, v = .ref x ∧ G x = some (tupO [.str q.1 t, .str q.2 t'] k) := fun v q r => by
    obtain ⟨x, us, k, rfl, e, l⟩ := r.any
    obtain ⟨u1, us1, rfl, r1, l1⟩ := RepL.more l
    obtain ⟨u2, us2, rfl, r2, l2⟩ := RepL.more l1
    obtain rfl := RepL.none l2
    obtain ⟨t, rfl⟩ := r1.any
    obtain ⟨t', rfl⟩ := r2.any
    exact ⟨x, t, t', k, rfl, e⟩
  obtain ⟨v1, vs1, rfl, r1, ra⟩ := RepL.more r
  obtain ⟨v2, vs2, rfl, r2, rb⟩ := RepL.more ra
  obtain ⟨v3, vs3, rfl, r3, rc⟩ := RepL.more rb
  obtain rfl := RepL.none rc
  obtain ⟨x1, t1, t1', k1, rfl, e1⟩ := key _ _ r1
  obtain ⟨x2, t2, t2', k2, rfl, e2⟩ := key _ _ r2
  obtain ⟨x3, t3, t3', k3, rfl, e3⟩ := key _ _ r3
  have q1 := o.keep _ _ e1
  have q2 := o.keep _ _ e2
  have q3 := o.keep _ _ e3
  have tot : ∀ x y : Str, x ≠ y → (decide (sLt y x)) = !(decide (sLt x y)) := fun x y h => by
    by_cases g : sLt x y
    · have : ¬ sLt y x := fun g' => List.lt_irrefl _ (List.lt_trans g g')
      simp [g, this]
    · have : sLt y x := by
        by_cases g' : sLt y x
        · exact g'
        · exact absurd (by
            have := List.le_antisymm (List.not_lt.mp g') (List.not_lt.mp g)
            cases x; cases y; simpa using this) h
      simp [g, this]
  have lt : ∀ (s' : Shared) (C : Bool → Shared → Prop) (x y : Addr) (p q : Str × Str) (t t' u u' : Tok) (k k' : Nat), s'.heap.get? x = some (tupO [.str p.1 t, .str p.2 t'] k) → s'.heap.get? y = some (tupO [.str q.1 u, .str q.2 u'] k') → p.1 ≠ q.1 → C (decide (sLt p.1 q.1)) s' →
      wpAny (model prog w) cx.A.in1.in1 (keyLt' (tuples' (Value.type "str" != Value.type "tuple")) (.ref x) (.ref y)) C (fun _ _ => False) s' := fun s' C x y p q t t' u u' k k' hx hy ne hC => by
    refine kat_lt hx rfl hy rfl ?_
    refine kat_cons (wpAny_eqBool_str ?_)
    rw [decide_eq_false ne]
    refine kat_no ?_
    show wpAny _ _ (oneLt' true _ _) _ _ _
    exact oneLt_str hC
  obtain ⟨b1, hb1⟩ : ∃ x, x = decide (sLt a.1 b.1) := ⟨_, rfl⟩
  obtain ⟨b2, hb2⟩ : ∃ x, x = decide (sLt a.1 c.1) := ⟨_, rfl⟩
  obtain ⟨b3, hb3⟩ : ∃ x, x = decide (sLt b.1 c.1) := ⟨_, rfl⟩
  have n1 : ¬(b1 = true ∧ b3 = true ∧ b2 = false) := by
    rintro ⟨h1, h2, h3⟩
    rw [hb1] at h1; rw [hb3] at h2; rw [hb2] at h3
    exact (of_decide_eq_false h3) (List.lt_trans (of_decide_eq_true h1) (of_decide_eq_true h2))
  have n2 : ¬(b1 = false ∧ b3 = false ∧ b2 = true) := by
    rintro ⟨h1, h2, h3⟩
    rw [hb2] at h3
    have g1 := tot _ _ hab
    have g2 := tot _ _ hbc
    rw [← hb1, h1] at g1; rw [← hb3, h2] at g2
    exact List.lt_irrefl _ (List.lt_trans (List.lt_trans (of_decide_eq_true h3) (of_decide_eq_true g2)) (of_decide_eq_true g1))
  have hp := run3 b1 b2 b3 n1 n2
  refine sorted_run (κ := tuples' (Value.type "str" != Value.type "tuple")) (f := tbl b1 b2 b3) (p := (order3 b1 b2 b3).toArray) (lstO_isList e) (Nat.le_of_ble_eq_true rfl) (Nat.le_of_ble_eq_true rfl) (fun s' Q' k q => ?_) (fun s' k i j bb hf C hC => ?_) hp ?_ fun D' h' c' nD k e' => ?_
  · refine kat_kind (fs := [.str a.1 t1, .str b.1 t2, .str c.1 t3]) (T := Value.type "str") (KatTups.cons (k _ _ q1) rfl rfl rfl (KatTups.cons (k _ _ q2) rfl rfl rfl (KatTups.cons (k _ _ q3) rfl rfl rfl KatTups.nil))) (Nat.le_of_ble_eq_true rfl) (fun v hv => ?_) (by decide) q
    simp only [List.mem_cons, List.not_mem_nil, or_false] at hv
    rcases hv with rfl | rfl | rfl <;> exact Looks.now
  · unfold tbl at hf
    unfold kas_ask
    by_cases c1 : i = 0 ∧ j = 1
    · rw [if_pos c1] at hf; cases hf; obtain ⟨rfl, rfl⟩ := c1
      exact lt s' C x1 x2 a b _ _ _ _ _ _ (k _ _ q1) (k _ _ q2) hab (hb1 ▸ hC)
    rw [if_neg c1] at hf
    by_cases c2 : i = 1 ∧ j = 0
    · rw [if_pos c2] at hf; cases hf; obtain ⟨rfl, rfl⟩ := c2
      exact lt s' C x2 x1 b a _ _ _ _ _ _ (k _ _ q2) (k _ _ q1) (Ne.symm hab) (by rw [tot _ _ hab, ← hb1]; exact hC)
    rw [if_neg c2] at hf
    by_cases c3 : i = 0 ∧ j = 2
    · rw [if_pos c3] at hf; cases hf; obtain ⟨rfl, rfl⟩ := c3
      exact lt s' C x1 x3 a c _ _ _ _ _ _ (k _ _ q1) (k _ _ q3) hac (hb2 ▸ hC)
    rw [if_neg c3] at hf
    by_cases c4 : i = 2 ∧ j = 0
    · rw [if_pos c4] at hf; cases hf; obtain ⟨rfl, rfl⟩ := c4
      exact lt s' C x3 x1 c a _ _ _ _ _ _ (k _ _ q3) (k _ _ q1) (Ne.symm hac) (by rw [tot _ _ hac, ← hb2]; exact hC)
    rw [if_neg c4] at hf
    by_cases c5 : i = 1 ∧ j = 2
    · rw [if_pos c5] at hf; cases hf; obtain ⟨rfl, rfl⟩ := c5
      exact lt s' C x2 x3 b c _ _ _ _ _ _ (k _ _ q2) (k _ _ q3) hbc (hb3 ▸ hC)
    rw [if_neg c5] at hf
    by_cases c6 : i = 2 ∧ j = 1
    · rw [if_pos c6] at hf; cases hf; obtain ⟨rfl, rfl⟩ := c6
      exact lt s' C x3 x2 c b _ _ _ _ _ _ (k _ _ q3) (k _ _ q2) (Ne.symm hbc) (by rw [tot _ _ hbc, ← hb3]; exact hC)
    rw [if_neg c6] at hf; cases hf
  · clear hb1 hb2 hb3 n1 n2 hp
    cases b1 <;> cases b2 <;> cases b3 <;> rfl
  · have gr : Grow G s.heap (G.put D' (lstO ((order3 b1 b2 b3).map fun i => [Value.ref x1, .ref x2, .ref x3].getD i Value.none) c')) h' := Grow.fresh o.keep nD k e'
    have out : ∀ (os : List (Str × Str)) (us : List Value), (order3 b1 b2 b3).map (fun i => [Value.ref x1, .ref x2, .ref x3].getD i Value.none) = us → RepL prog w G us (os.map pairD) → os.Perm [a, b, c] → os.Pairwise (fun x y => sLt x.1 y.1) →
        Q (.ref D') { s with heap := h' } := fun os us hu hr pm pw => R _ (.lst (os.map pairD)) h' s.toks _ gr (.lst (GMap.put_self ..) (hu ▸ hr.mono gr.gg)) (Nat.le_refl _) (z os pm pw)
    have T : ∀ {x : Bool} {p q : Str}, x = decide (sLt p q) → x = true → sLt p q := fun h1 h2 => of_decide_eq_true (h1 ▸ h2)
    have F : ∀ {x : Bool} {p q : Str}, p ≠ q → x = decide (sLt p q) → x = false → sLt q p := fun h0 h1 h2 => of_decide_eq_true (by rw [tot _ _ h0, ← h1, h2]; rfl)
    have P3 : ∀ x y z : Str × Str, sLt x.1 y.1 → sLt y.1 z.1 → [x, y, z].Pairwise (fun x y => sLt x.1 y.1) := fun x y z h1 h2 => by
      refine .cons (fun v hv => ?_) (.cons (fun v hv => ?_) (.cons (fun v hv => nomatch hv) .nil))
      · rcases List.mem_cons.mp hv with rfl | hv
        · exact h1
        · rw [List.mem_singleton.mp hv]; exact List.lt_trans h1 h2
      · rw [List.mem_singleton.mp hv]; exact h2
    cases b1 <;> cases b2 <;> cases b3
    · exact out [c, b, a] _ rfl (.cons r3 (.cons r2 (.cons r1 .nil))) (List.reverse_perm [a, b, c]) (P3 _ _ _ (F hbc hb3 rfl) (F hab hb1 rfl))
    · exact out [b, c, a] _ rfl (.cons r2 (.cons r3 (.cons r1 .nil))) (List.perm_append_comm (l₁ := [b, c]) (l₂ := [a])) (P3 _ _ _ (T hb3 rfl) (F hac hb2 rfl))
    · exact absurd ⟨rfl, rfl, rfl⟩ n2
    · exact out [b, a, c] _ rfl (.cons r2 (.cons r1 (.cons r3 .nil))) (.swap ..) (P3 _ _ _ (F hab hb1 rfl) (T hb2 rfl))
    · exact out [c, a, b] _ rfl (.cons r3 (.cons r1 (.cons r2 .nil))) (List.perm_append_comm (l₁ := [c]) (l₂ := [a, b])) (P3 _ _ _ (F hac hb2 rfl) (T hb1 rfl))
    · exact absurd ⟨rfl, rfl, rfl⟩ n1
    · exact out [a, c, b] _ rfl (.cons r1 (.cons r3 (.cons r2 .nil))) (.cons _ (.swap ..)) (P3 _ _ _ (T hb2 rfl) (F hbc hb3 rfl))
    · exact out [a, b, c] _ rfl (.cons r1 (.cons r2 (.cons r3 .nil))) (.refl _) (P3 _ _ _ (T hb1 rfl) (T hb3 rfl))
end
end

section

noncomputable def Cx.thaw (cx : Cx) (t : Str) : Cx := { cx with mu := cx.mu.filter (· != t), pin := none, pinMu := (fun _ q => nomatch q) }
theorem thaw_contains {cx : Cx} {t x : Str} : (cx.thaw t).mu.contains x = (cx.mu.contains x && x != t) := by
  show (cx.mu.filter (· != t)).contains x = _
  by_cases h : x ∈ cx.mu <;> by_cases q : x = t <;> simp [h, q]
theorem lookup_filter {α : Type} {t x : Str} : ∀ {l : List (Str × α)}, (l.filter (·.1 != t)).lookup x = if x = t then none else l.lookup x
  | [] => by simp
  | p :: l => by
    have ih := lookup_filter (t := t) (x := x) (l := l)
    by_cases q : p.1 = t
    · rw [List.filter_cons_of_neg (by simpa using q), ih, List.lookup_cons]
      by_cases z : x = t
      · rw [if_pos z, if_pos z]
      · have : (x == p.1) = false := by simpa using fun y => z (y.trans q)
        rw [this]
    · rw [List.filter_cons_of_pos (by simpa using q), List.lookup_cons, List.lookup_cons]
      by_cases z : x = p.1
      · have : x ≠ t := fun y => q (z ▸ y)
        rw [if_neg this]
        have : (x == p.1) = true := by simpa using z
        rw [this]
      · have : (x == p.1) = false := by simpa using z
        rw [this, ih]

section
variable {prog : Program} {w : World} {K : Frag} {B : Base K} {cx : Cx} {O : List Addr} {G G' : GMap} {h h' : Heap} {ρ : List (Str × D)} {Ψ : D → Prop} {Φ : Fl → List (Str × D) → Prop}

/-- a mutable object is frozen -/
theorem St.freeze {t : Str} {d : D} (S : St prog w B cx O G h ρ) (hl : ρ.lookup t = some d) (hm : cx.mu.contains t = true) (hp : cx.pin = none) :
    ∃ O' G', St prog w B (cx.thaw t) O' G' h ρ ∧ Step O G h O' G' h := by
  obtain ⟨m, μ, hns, hnd, hin, hv⟩ := S.fr
  cases hv t d hl with
  | loc _ h2 _ _ => rw [hm] at h2; cases h2
  | cell _ h2 _ _ _ => rw [hm] at h2; cases h2
  | own h1 h2 h3 h4 h5 =>
    rename_i a v
    obtain ⟨o, ho⟩ := h5.exists
    have hma : a ∈ μ.map (·.2) := List.mem_map.mpr ⟨(t, a), mem_of_lookup h3, rfl⟩
    have haO : a ∈ O := hin a (List.mem_cons_of_mem _ hma)
    have hGa := (S.own a haO).1
    have na : a ≠ cx.env.locals := fun z => (List.nodup_cons.mp hnd).1 (z ▸ hma)
    have gg : GLe G (G.put a o) := GMap.put_le hGa
    have fr : Rep prog w (G.put a o) v d := by
      cases h5 with
      | lst e l => rw [e] at ho; cases ho; exact .lst (GMap.put_self ..) (l.mono gg)
      | dic y e i l => rw [e] at ho; cases ho; exact .dic y (GMap.put_self ..) i (l.mono gg)
      | obj e0 e l => rw [e] at ho; cases ho; exact .obj (gg _ _ e0) (GMap.put_self ..) (l.mono gg)
    have keep' : ∀ b x, (G.put a o) b = some x → h.get? b = some x := fun b x e => by
      by_cases q : b = a
      · subst q; rw [GMap.put_self] at e; cases e; exact ho
      · rw [GMap.put_ne q] at e; exact S.keep b x e
    have mO : ∀ b, b ∈ O.filter (· != a) ↔ b ∈ O ∧ b ≠ a := fun b => by simp
    refine ⟨O.filter (· != a), G.put a o, ⟨fun b x e => gg b x (S.base b x e), keep', fun b hb => ?_, fun hc => ⟨(S.cells hc).1, fun p hp => ?_⟩, (fun _ q => nomatch q), m, μ.filter (·.1 != t), hns, ?_, fun b hb => ?_, fun x d' e => ?_⟩, fun b hb => (S.own b hb).2, fun b hb => .inl ((mO b).mp hb).1, fun b hb => (S.own b ((mO b).mp hb).1).2, gg, fun b x _ e => e, fun b x nb e ng => (GMap.put_ne (fun q => nb (by rw [q]; exact haO))).trans ng⟩
    · obtain ⟨hb1, hb2⟩ := (mO b).mp hb
      obtain ⟨z1, z2⟩ := S.own b hb1
      exact ⟨by rw [GMap.put_ne hb2]; exact z1, z2⟩
    · obtain ⟨z1, v', z2⟩ := (S.cells hc).2 p hp
      exact ⟨(mO _).mpr ⟨z1, h5.notCell z2⟩, v', z2⟩
    · refine List.nodup_cons.mpr ⟨fun q => (List.nodup_cons.mp hnd).1 ?_, ?_⟩
      · obtain ⟨p, hp, e⟩ := List.mem_map.mp q
        exact List.mem_map.mpr ⟨p, (List.mem_filter.mp hp).1, e⟩
      · exact (List.Sublist.map _ (List.filter_sublist)).nodup (List.nodup_cons.mp hnd).2
    · rcases List.mem_cons.mp hb with rfl | hb
      · exact (mO _).mpr ⟨hin _ (List.mem_cons_self ..), Ne.symm na⟩
      · obtain ⟨p, hp, rfl⟩ := List.mem_map.mp hb
        obtain ⟨p1, p2⟩ := List.mem_filter.mp hp
        refine (mO _).mpr ⟨hin _ (List.mem_cons_of_mem _ (List.mem_map.mpr ⟨p, p1, rfl⟩)), fun q => ?_⟩
        have := inj_of_nodup (List.nodup_cons.mp hnd).2 p1 (mem_of_lookup h3) q
        rw [this] at p2; simp at p2
    · by_cases q : x = t
      · subst q
        rw [hl] at e; cases e
        exact .loc h1 (by rw [thaw_contains]; simp) h4 fr
      · cases hv x d' e with
        | loc z1 z2 z3 z4 => exact .loc z1 (by rw [thaw_contains, z2]; rfl) z3 (z4.mono gg)
        | own z1 z2 z3 z4 z5 => exact .own z1 (by rw [thaw_contains, z2]; simpa using q) (by rw [lookup_filter, if_neg q]; exact z3) z4 (z5.grow gg rfl)
        | cell z1 z2 z3 z4 z5 => exact .cell z1 (by rw [thaw_contains, z2]; rfl) z3 z4 (z5.mono gg)

theorem St.back {t : Str} (S : St prog w B (cx.thaw t) O G h ρ) (hp : cx.pin = none) : St prog w B cx O G h (ρ.filter (·.1 != t)) := by
  obtain ⟨m, μ, hns, hnd, hin, hv⟩ := S.fr
  refine ⟨S.base, S.keep, S.own, S.cells, (fun p q => by rw [hp] at q; cases q), m, μ, hns, hnd, hin, fun x d e => ?_⟩
  rw [lookup_filter] at e
  split at e
  · cases e
  · rename_i q
    have hc : ∀ b, (cx.thaw t).mu.contains x = b → cx.mu.contains x = b := fun b hb => by
      rw [thaw_contains] at hb
      have : (x != t) = true := by simpa using q
      rw [this, Bool.and_true] at hb; exact hb
    cases hv x d e with
    | loc z1 z2 z3 z4 => exact .loc z1 (hc _ z2) z3 z4
    | own z1 z2 z3 z4 z5 => exact .own z1 (hc _ z2) z3 z4 z5
    | cell z1 z2 z3 z4 z5 => exact .cell z1 (hc _ z2) z3 z4 z5

theorem WS.freeze {t : Str} {d : D} {st : Stmt} (hl : ρ.lookup t = some d) (x : WS prog w B (cx.thaw t) st (fun fl ρ' => Φ fl (ρ'.filter (·.1 != t))) ρ) (hm : cx.mu.contains t = true := by rfl) (hp : cx.pin = none := by rfl) : WS prog w B cx st Φ ρ := fun O G s Q E S tk R => by
  obtain ⟨O₁, G₁, S₁, k₁⟩ := S.freeze hl hm hp
  exact x O₁ G₁ s Q E S₁ tk fun f fl ρ' h' tk' O' G' k' S' p t z => R f fl _ h' tk' O' G' (k₁.trans k') (S'.back hp) p t z

theorem WE.dictE {p : Pos} (z : Ψ (.dic [])) : WE prog w B cx (.Dict [] [] p) Ψ ρ := fun O G s Q E S tk R => by
  refine (WN.dict (Ψ := fun d => d = .dic []) rfl) O G s _ E S tk fun v a d h₁ tk₁ G₁ k₁ M₁ n₁ e₁ t₁ z₁ => ?_
  subst z₁
  cases M₁ with
  | dic y e i l =>
    rename_i o kvs
    have gg : GLe G₁ (G₁.put a o) := GMap.put_le n₁
    refine R _ (.dic []) h₁ tk₁ (G₁.put a o) ⟨k₁.gg.trans gg, fun b x e' => ?_, k₁.hh, fun b x e' ng => ?_⟩ (.dic y (GMap.put_self ..) i (l.mono gg)) t₁ z
    · by_cases q : b = a
      · subst q; rw [GMap.put_self] at e'; cases e'; exact e
      · rw [GMap.put_ne q] at e'; exact k₁.gh b x e'
    · have : b ≠ a := fun q => by rw [q, e₁] at e'; cases e'
      rw [GMap.put_ne this]; exact k₁.new b x e' ng
end
end

section
section
variable {prog : Program} {w : World} {K : Frag} {B : Base K} {cx : Cx} {ρ : List (Str × D)} {Ψ : D → Prop}
/- what a goal looks like: each is tried at reducible sight, so that a wrong guess is cheap -/
theorem gWE {e : Expr} (x : WE prog w B cx e Ψ ρ) : WE prog w B cx e Ψ ρ := x
theorem gWV {e : Expr} (x : WV prog w B cx e Ψ ρ) : WV prog w B cx e Ψ ρ := x
theorem gWVname {x : Str} {p : Pos} (z : WV prog w B cx (.Name x p) Ψ ρ) : WV prog w B cx (.Name x p) Ψ ρ := z
theorem gWLnil {Φ : List D → Prop} (x : WL prog w B cx [] Φ ρ) : WL prog w B cx [] Φ ρ := x
theorem gWLcons {Φ : List D → Prop} {e : Expr} {es : List Expr} (x : WL prog w B cx (e :: es) Φ ρ) : WL prog w B cx (e :: es) Φ ρ := x
theorem gWB {Φ : Bool → Prop} {l r : Expr} {op : CmpOp} {p : Pos} (x : WB prog w B cx (.Compare l [op] [r] p) Φ ρ) : WB prog w B cx (.Compare l [op] [r] p) Φ ρ := x
theorem gName {x : Str} {p : Pos} (z : WE prog w B cx (.Name x p) Ψ ρ) : WE prog w B cx (.Name x p) Ψ ρ := z
theorem gInt {i : Int} {k : Nat} {p : Pos} (z : WE prog w B cx (.Constant (.int i) k p) Ψ ρ) : WE prog w B cx (.Constant (.int i) k p) Ψ ρ := z
theorem gStr {i : Str} {k : Nat} {p : Pos} (z : WE prog w B cx (.Constant (.str i) k p) Ψ ρ) : WE prog w B cx (.Constant (.str i) k p) Ψ ρ := z
theorem gBool {i : Bool} {k : Nat} {p : Pos} (z : WE prog w B cx (.Constant (.bool i) k p) Ψ ρ) : WE prog w B cx (.Constant (.bool i) k p) Ψ ρ := z
theorem gBin {l r : Expr} {op : Operator} {p : Pos} (z : WE prog w B cx (.BinOp l op r p) Ψ ρ) : WE prog w B cx (.BinOp l op r p) Ψ ρ := z
theorem gUn {e : Expr} {op : UnaryOp} {p : Pos} (z : WE prog w B cx (.UnaryOp op e p) Ψ ρ) : WE prog w B cx (.UnaryOp op e p) Ψ ρ := z
theorem gSub {a b : Expr} {p : Pos} (z : WE prog w B cx (.Subscript a b p) Ψ ρ) : WE prog w B cx (.Subscript a b p) Ψ ρ := z
theorem gIf {a b c : Expr} {p : Pos} (z : WE prog w B cx (.IfExp a b c p) Ψ ρ) : WE prog w B cx (.IfExp a b c p) Ψ ρ := z
theorem gDict {p : Pos} (z : WE prog w B cx (.Dict [] [] p) Ψ ρ) : WE prog w B cx (.Dict [] [] p) Ψ ρ := z
theorem gAttr {a : Expr} {x : Str} {p : Pos} (z : WE prog w B cx (.Attribute a x p) Ψ ρ) : WE prog w B cx (.Attribute a x p) Ψ ρ := z
theorem gTup {es : List Expr} {k : Nat} {p : Pos} (z : WE prog w B cx (.Tuple es k p) Ψ ρ) : WE prog w B cx (.Tuple es k p) Ψ ρ := z
theorem gList {es : List Expr} {p : Pos} (z : WE prog w B cx (.List es p) Ψ ρ) : WE prog w B cx (.List es p) Ψ ρ := z
theorem gCmp {l r : Expr} {op : CmpOp} {p : Pos} (z : WE prog w B cx (.Compare l [op] [r] p) Ψ ρ) : WE prog w B cx (.Compare l [op] [r] p) Ψ ρ := z
theorem gLen {e : Expr} {p p' : Pos} (z : WE prog w B cx (.Call (.Name "len" p) [e] [] p') Ψ ρ) : WE prog w B cx (.Call (.Name "len" p) [e] [] p') Ψ ρ := z
theorem gJ1 {f : Value → Sem Value} {a : D} (z : J1 prog w B cx f a Ψ) : J1 prog w B cx f a Ψ := z
theorem gJ1attr {x : Str} {b : Bool} {C : Addr} {fs : List (Str × D)} (z : J1 prog w B cx (fun v => getAttr v x b) (.obj C fs) Ψ) : J1 prog w B cx (fun v => getAttr v x b) (.obj C fs) Ψ := z
theorem gJ1attrD {x : Str} {b : Bool} {a : D} (z : J1 prog w B cx (fun v => getAttr v x b) a Ψ) : J1 prog w B cx (fun v => getAttr v x b) a Ψ := z
theorem gJ1neg {a : Int} (z : J1 prog w B cx (unaryOp .USub) (.int a) Ψ) : J1 prog w B cx (unaryOp .USub) (.int a) Ψ := z
theorem gJ1len {a : D} (z : J1 prog w B cx (fun v => call (.builtin "len") [v] []) a Ψ) : J1 prog w B cx (fun v => call (.builtin "len") [v] []) a Ψ := z
theorem gJ1lenL {a : List D} (z : J1 prog w B cx (fun v => call (.builtin "len") [v] []) (.lst a) Ψ) : J1 prog w B cx (fun v => call (.builtin "len") [v] []) (.lst a) Ψ := z
theorem gJ1lenT {a : List D} (z : J1 prog w B cx (fun v => call (.builtin "len") [v] []) (.tup a) Ψ) : J1 prog w B cx (fun v => call (.builtin "len") [v] []) (.tup a) Ψ := z
theorem gJ1lenS {a : Str} (z : J1 prog w B cx (fun v => call (.builtin "len") [v] []) (.str a) Ψ) : J1 prog w B cx (fun v => call (.builtin "len") [v] []) (.str a) Ψ := z
theorem gII {f : Value → Value → Sem Value} {a b : Int} (z : J2 prog w B cx f (.int a) (.int b) Ψ) : J2 prog w B cx f (.int a) (.int b) Ψ := z
theorem gSS {f : Value → Value → Sem Value} {a b : Str} (z : J2 prog w B cx f (.str a) (.str b) Ψ) : J2 prog w B cx f (.str a) (.str b) Ψ := z
theorem gLL {f : Value → Value → Sem Value} {a b : List D} (z : J2 prog w B cx f (.lst a) (.lst b) Ψ) : J2 prog w B cx f (.lst a) (.lst b) Ψ := z
theorem gLI {f : Value → Value → Sem Value} {a : List D} {b : Int} (z : J2 prog w B cx f (.lst a) (.int b) Ψ) : J2 prog w B cx f (.lst a) (.int b) Ψ := z
theorem gOpB {o : Operator} {a b : D} (op : Operator) (h : o = op) (z : J2 prog w B cx (binaryOp o) a b Ψ) : J2 prog w B cx (binaryOp o) a b Ψ := z
theorem gOpI {o : Operator} {a b : D} (op : Operator) (h : o = op) (z : J2 prog w B cx (inplaceOp o) a b Ψ) : J2 prog w B cx (inplaceOp o) a b Ψ := z
theorem gOpC {o : CmpOp} {a b : D} (op : CmpOp) (h : o = op) (z : J2 prog w B cx (compareOp o) a b Ψ) : J2 prog w B cx (compareOp o) a b Ψ := z
theorem gEx {α : Type} {p : α → Prop} (z : ∃ a, p a) : ∃ a, p a := z
theorem gAnd {a b : Nat} {q : Prop} (z : a ≤ b ∧ q) : a ≤ b ∧ q := z
end
end

local macro_rules | `(tactic| walk_at "ev") => `(tactic| repeat' (first
  | with_reducible first | refine WE.int ?_ | refine WE.str ?_ | refine WE.bool ?_ | refine WE.binop ?_ | refine WE.unary ?_ | refine WE.sub ?_ | refine WE.ifExp ?_ | refine WE.dictE ?_ | refine WE.attr ?_ | refine WE.tuple ?_ | refine WE.list ?_ | refine WE.compare ?_ | refine WL.nil ?_ | refine WB.compare ?_ | refine J1.neg ?_ | refine J1.lenL ?_ ?_ | refine J1.lenS ?_ ?_ | refine J1.lenT ?_ ?_ | refine J2.add ?_ | refine J2.sub ?_ | refine J2.iadd ?_ | refine J2.mul ?_ ?_ | refine J2.floordiv ?_ ?_ ?_ | refine J2.ifloordiv ?_ ?_ ?_ | refine J2.mod ?_ ?_ | refine J2.lt ?_ | refine J2.le ?_ | refine J2.gt ?_ | refine J2.ge ?_ | refine J2.eq ?_ | refine J2.ne ?_ | refine J2.sAdd ?_ ?_ | refine J2.sIadd ?_ ?_ | refine J2.sEq ?_ | refine J2.rep ?_ ?_ ?_ | refine J2.lAdd ?_ ?_
  | ((with_reducible refine gName ?_); refine WE.name rfl ?_)
  | ((with_reducible refine gWVname ?_); refine WV.name rfl ?_)
  | with_reducible refine WV.of ?_
  | ((with_reducible refine gWLcons ?_); refine WL.cons ?_)
  | ((with_reducible refine gLen ?_); refine WE.call1 (f := "len") (fv := .builtin "len") ?_ rfl (by kernel_rfl) (by kernel_rfl) fun K => Keeps.builtin)
  | ((with_reducible refine gJ1attrD ?_); refine J1.attr rfl ?_ (by kernel_rfl) (by kernel_rfl) (by kernel_rfl))
  | ((with_reducible refine gJ1len ?_); refine J1.lenL ?_ ?_)
  | ((with_reducible refine gOpC .Eq rfl ?_); refine J2.sEq ?_)
  | ((with_reducible refine gOpB .Add rfl ?_); first | refine J2.sAdd ?_ ?_ | refine J2.lAdd ?_ ?_)
  | ((with_reducible refine gOpI .Add rfl ?_); refine J2.sIadd ?_ ?_)
  | refine Exists.intro _ (And.intro rfl ?_)
  | refine And.intro (Nat.le_of_ble_eq_true rfl) ?_
  | fail))

section

/-- a text of code points -/
noncomputable abbrev S (l : List Nat) : Str := ⟨l.toArray⟩
noncomputable def signD (c : Nat) : D := .str (S [c])
theorem S_append (a b : List Nat) : S a ++ S b = S (a ++ b) := by
  show (⟨a.toArray ++ b.toArray⟩ : Str) = _
  simp [S]
theorem S_length (a : List Nat) : (S a).length = a.length := by show a.toArray.size = _; simp
theorem S_inj {a b : List Nat} : S a = S b ↔ a = b := ⟨fun h => by have := congrArg (fun s : Str => s.cps.toList) h; simpa [S] using this, fun h => by rw [h]⟩
theorem S_beq (a b : List Nat) : (S a == S b) = decide (a = b) := by
  by_cases h : a = b
  · subst h; simp
  · rw [decide_eq_false h]; exact beq_eq_false_iff_ne.mpr fun q => h (S_inj.mp q)
theorem S_signs (a : List Nat) : strSigns (S a) = a.map signD := rfl
theorem S_of (x : Str) : S x.cps.toList = x := rfl
theorem S_upTo (a : List Nat) (n : Nat) : upTo (S a) n = S (a.take n) := rfl
theorem mulOk {a b : Int} (h : b.natAbs < 2 ^ 62) : IntMulOk a b := by
  refine IntMulOk.of_right ?_
  unfold Builtin.Int.intBits
  split
  · decide
  · have : b.natAbs.log2 < 63 := (Nat.log2_lt (by rename_i q; simpa using q)).mpr (Nat.lt_of_lt_of_le h (Nat.pow_le_pow_right (by decide) (by decide)))
    omega
theorem tabS : Str.ofString "\t" = S [9] := rfl
theorem mem_fold {α β : Type} : True := trivial

section
variable {prog : Program} {w : World} {B : Base (K0.heap_1 w.params)} {cx : Cx} {Ψ : D → Prop}

noncomputable def columnStep (n : Int) (col : Int) (c : Nat) : Int := if c = 9 then (col.fdiv n + 1) * n else col + 1
noncomputable def column (n : Int) (x : List Nat) : Int := x.foldl (columnStep n) 0

theorem c_column (hf : 1 ≤ cx.fuel) (x : List Nat) (n : Int) (h1 : 1 ≤ n) (h2 : n ≤ 10) (z : Ψ (.int (column n x))) : JC prog w B cx (.ref 317) [.str (S x), .int n] Ψ := by
  refine JC.fn (f := 317) ["lead", "size"] [] hf (by rfl) (by decide) rfl (fun vs h => ?_) (by rfl) (by decide) (by decide) (by decide) rfl (fun L => ?_)
  · obtain ⟨a, b, rfl⟩ := ar2 h
    exact rfl
  refine WSs.cons (WS.assign (WE.int ?_) ⟨.inl rfl, rfl⟩)
  refine WSs.for (WI.of (WE.name rfl (JI.str ?_)))
  refine ⟨List Nat × Int, fun ds s => ds = s.1.map signD ∧ s.1.foldl (columnStep n) s.2 = column n x, fun s => [("column", .int s.2), ("size", .int n)], (x, 0), ⟨S_signs x, rfl⟩, ⟨rfl, rfl, trivial⟩, ?_, ?_⟩
  · rintro d r ⟨cs, col⟩ ⟨e1, e2⟩
    cases cs with
    | nil => cases e1
    | cons c cs =>
      cases e1
      refine WT.name ⟨.inl rfl, rfl⟩ ?_
      refine WSs.cons (WS.if ?_)
      walk_at "ev"
      rw [tabS, S_beq]
      split
      · rename_i hc
        have hc : c = 9 := by simpa using hc
        subst hc
        refine WSs.cons (WS.assign ?_ ⟨.inl rfl, rfl⟩)
        walk_at "ev"
        · omega
        · omega
        · exact mulOk (by omega)
        · exact WSs.nil (WSs.nil ⟨(cs, _), ⟨rfl, e2⟩, ⟨rfl, rfl, trivial⟩⟩)
      · rename_i hc
        have hc : ¬ c = 9 := by simpa using hc
        refine WSs.cons (WS.aug rfl ?_ rfl)
        walk_at "ev"
        refine WSs.nil (WSs.nil ⟨(cs, _), ⟨rfl, ?_⟩, ⟨rfl, rfl, trivial⟩⟩)
        rw [← e2]
        show _ = cs.foldl (columnStep n) (columnStep n col c)
        unfold columnStep; rw [if_neg hc]
  · rintro ⟨cs, col⟩ ⟨e1, e2⟩
    have : cs = [] := by simpa using e1.symm
    subst this
    refine WSs.cons (WS.ret ?_)
    walk_at "ev"
    rw [show col = _ from e2]; exact z
end
end

section
section
variable {prog : Program} {w : World} {B : Base (K0.heap_1 w.params)} {cx : Cx} {Ψ : D → Prop}

structure Ws where
  cnt : List Int
  b : Nat
  n : Nat
  nt : Nat
noncomputable def Ws.wide (s : Ws) : List Int := if s.cnt.length ≤ s.b then s.cnt ++ List.replicate (s.b - s.cnt.length + 1) 0 else s.cnt
noncomputable def wsStep (s : Ws) (c : Nat) : Ws := if c = 32 then { s with b := s.b + 1, n := s.n + 1 } else { cnt := s.wide.set s.b (s.wide.getD s.b 0 + 1), b := 0, n := s.n + 1, nt := s.nt + 1 }
noncomputable def ws (p : List Nat) : Ws := p.foldl wsStep ⟨[], 0, 0, 0⟩
noncomputable def leadF (raw : D) (s : Ws) : List (Str × D) := [("raw", raw), ("n", .int s.n), ("nt", .int s.nt), ("norm", .tup [.tup (s.cnt.map .int), .int s.b]), ("is_simple", .bool (decide (s.cnt.length ≤ 1)))]
noncomputable def leadD (p : List Nat) : D := .obj 83 (leadF (.str (S (p ++ [120, 32, 9]))) (ws p))
/-- blanks and tabs alone -/
noncomputable def Blank (p : List Nat) : Prop := ∀ c ∈ p, c = 32 ∨ c = 9

theorem sp_eq (c : Nat) : (S [c] == Str.ofString " ") = decide (c = 32) := by rw [show Str.ofString " " = S [32] from rfl, S_beq]; simp
theorem tb_eq (c : Nat) : (S [c] == Str.ofString "\t") = decide (c = 9) := by rw [tabS, S_beq]; simp
theorem ws_room (s : Ws) : s.b < s.wide.length := by
  unfold Ws.wide; split
  · rw [List.length_append, List.length_replicate]; omega
  · omega
theorem wide_len (s : Ws) : s.wide.length ≤ s.cnt.length + s.b + 1 := by
  unfold Ws.wide; split
  · rw [List.length_append, List.length_replicate]; omega
  · omega
noncomputable def Ws.small (s : Ws) (m : Nat) : Prop := s.b + m ≤ 100 ∧ s.cnt.length + s.b + m ≤ 101
theorem ws_small {s : Ws} {m : Nat} (c : Nat) (h : s.small (m + 1)) : (wsStep s c).small m := by
  unfold wsStep Ws.small at *
  split
  · dsimp only; omega
  · dsimp only
    have := wide_len s
    rw [List.length_set]
    have : s.wide.length ≤ 101 - m := by
      unfold Ws.wide; split
      · rw [List.length_append, List.length_replicate]; omega
      · omega
    omega

theorem c_lead (hf : 5 ≤ cx.fuel) (p : List Nat) (hp : Blank p) (hl : p.length ≤ 100) (z : Ψ (leadD p)) : JC prog w B cx (.ref 83) [.str (S (p ++ [120, 32, 9]))] Ψ := by
  refine JC.new (C := 83) (f := 38) ["ws"] [] [] ["self", "count"] (by omega) (by kernel_rfl) (by kernel_rfl) (by kernel_rfl) (by rfl) (by decide) rfl (fun G => .nil) (fun s self vs X h => ?_) (by kernel_rfl) (by decide) (by decide) (by decide) (by decide) rfl (fun args self L => ?_)
  · obtain ⟨a, rfl⟩ := ar1 h
    exact .of_eq rfl
  refine WSs.cons (WS.setAttr rfl ?_ (Nat.le_of_ble_eq_true rfl) (by kernel_rfl) (by kernel_rfl) (by kernel_rfl) (by kernel_rfl))
  walk_at "ev"
  refine WSs.cons (WS.assignSwap ?_ ⟨.inl rfl, rfl⟩ ⟨.inl rfl, rfl⟩)
  refine WE.tuple (WL.cons (WE.attr (WV.of (WE.glob (a := 83) (J1.clsAttr (mc := .type "type") (x := S [32]) (t := 209) ?_ (by kernel_rfl) (by kernel_rfl)) rfl (by kernel_rfl)))) fun _ => rfl)
  refine WL.cons (WE.attr (WV.of (WE.glob (a := 83) (J1.clsAttr (mc := .type "type") (x := S [9]) (t := 210) ?_ (by kernel_rfl) (by kernel_rfl)) rfl (by kernel_rfl)))) fun _ => rfl
  refine WL.nil ⟨by decide, _, _, rfl, ?_⟩
  refine WSs.cons (WS.assignNew (WN.list (WL.nil ⟨by decide, ?_⟩)) rfl rfl (fun _ e => by cases e; show selfN ≠ _; decide))
  refine WSs.cons (WS.assign3 (WE.int ?_) ⟨.inl rfl, rfl⟩ ⟨.inl rfl, rfl⟩ ⟨.inl rfl, rfl⟩)
  refine WSs.for (WI.of (WE.attr (WV.name rfl (J1.attr rfl (JI.str ?_) (by kernel_rfl) (by kernel_rfl) (by kernel_rfl)))))
  refine ⟨List Nat × Ws, fun ds s => ds = (s.1 ++ [120, 32, 9]).map signD ∧ Blank s.1 ∧ s.2.small s.1.length ∧ s.1.foldl wsStep s.2 = ws p, fun s => [("self", .obj 83 [("raw", .str (S (p ++ [120, 32, 9])))]), ("S", .str (S [32])), ("T", .str (S [9])), ("count", .lst (s.2.cnt.map .int)), ("b", .int s.2.b), ("n", .int s.2.n), ("nt", .int s.2.nt)],
    (p, ⟨[], 0, 0, 0⟩), ⟨S_signs _, hp, ⟨by simpa using hl, by simp only [List.length_nil]; omega⟩, rfl⟩, ⟨rfl, rfl, rfl, rfl, rfl, rfl, rfl, trivial⟩, ?_, ?_⟩
  · rintro d r ⟨cs, s⟩ ⟨e1, e2, e3, e4⟩
    refine WT.name ⟨.inl rfl, rfl⟩ ?_
    cases cs with
    | nil =>
      -- the sign that ends the lead
      have e1' : d = signD 120 := by
        have := congrArg List.head? e1
        simpa using this
      subst e1'
      refine WSs.cons (WS.if ?_)
      walk_at "ev"
      rw [if_neg (by decide)]
      refine WSs.cons (WS.if ?_)
      walk_at "ev"
      rw [if_neg (by decide)]
      refine WSs.cons (WS.brk ?_)
      have e4 : s = ws p := e4
      subst e4
      refine WSs.cons (WS.setAttr rfl ?_ (Nat.le_of_ble_eq_true rfl) (by kernel_rfl) (by kernel_rfl) (by kernel_rfl) (by kernel_rfl))
      walk_at "ev"
      refine WSs.cons (WS.setAttr rfl ?_ (Nat.le_of_ble_eq_true rfl) (by kernel_rfl) (by kernel_rfl) (by kernel_rfl) (by kernel_rfl))
      walk_at "ev"
      refine WSs.cons (WS.setAttr rfl ?_ (Nat.le_of_ble_eq_true rfl) (by kernel_rfl) (by kernel_rfl) (by kernel_rfl) (by kernel_rfl))
      refine WE.tuple (WL.cons (WE.call1 (fv := .type "tuple") (WV.name rfl (J1.tuple ?_ ?_)) rfl (by kernel_rfl) (by kernel_rfl) fun K => Keeps.type) fun _ => rfl)
      · have := e3.2; simp only [List.length_map, List.length_nil] at this ⊢; rw [sizeLine_eq]; omega
      walk_at "ev"
      refine WSs.cons (WS.setAttr rfl ?_ (Nat.le_of_ble_eq_true rfl) (by kernel_rfl) (by kernel_rfl) (by kernel_rfl) (by kernel_rfl))
      refine WE.compare (WV.of (WE.call1 (fv := .builtin "len") (WV.name rfl (J1.lenL ?_ ?_)) rfl (by kernel_rfl) (by kernel_rfl) fun K => Keeps.builtin))
      · have := e3.2; simp only [List.length_map, List.length_nil] at this ⊢; omega
      walk_at "ev"
      refine WSs.nil ⟨rfl, _, rfl, ?_⟩
      have : leadD p = .obj 83 (leadF (.str (S (p ++ [120, 32, 9]))) (ws p)) := rfl
      rw [this] at z
      rw [List.length_map]
      have hd : decide ((((ws p).cnt.length : Nat) : Int) ≤ 1) = decide ((ws p).cnt.length ≤ 1) := by
        by_cases q : (ws p).cnt.length ≤ 1
        · rw [decide_eq_true q, decide_eq_true (by omega)]
        · rw [decide_eq_false q, decide_eq_false (by omega)]
      rw [hd]
      exact z
    | cons c cs =>
      have hd : d = signD c ∧ r = (cs ++ [120, 32, 9]).map signD := by
        rw [List.cons_append, List.map_cons] at e1
        injection e1 with a b
        exact ⟨a, b⟩
      obtain ⟨rfl, rfl⟩ := hd
      have hb := e2 c (List.mem_cons_self ..)
      have e2' : Blank cs := fun x hx => e2 x (List.mem_cons_of_mem _ hx)
      have e3' := ws_small c (m := cs.length) e3
      have e3s : s.small (cs.length + 1) := e3
      have hcl : s.cnt.length ≤ 101 := by have := e3s.2; omega
      have hbl : s.b ≤ 100 := by have := e3s.1; omega
      refine WSs.cons (WS.if ?_)
      walk_at "ev"
      rw [S_beq]
      by_cases h32 : c = 32
      · subst h32
        rw [if_pos (by decide)]
        refine WSs.cons (WS.assign ?_ ⟨.inl rfl, rfl⟩)
        walk_at "ev"
        refine WSs.cons (WS.assign ?_ ⟨.inl rfl, rfl⟩)
        walk_at "ev"
        exact WSs.nil (WSs.nil ⟨(cs, wsStep s 32), ⟨rfl, e2', e3', e4⟩, ⟨rfl, rfl, rfl, rfl, rfl, rfl, rfl, trivial⟩⟩)
      · have h9 : c = 9 := hb.resolve_left h32
        subst h9
        rw [if_neg (by decide)]
        refine WSs.cons (WS.if ?_)
        walk_at "ev"
        rw [if_pos (by decide)]
        refine WSs.cons (WS.assign ?_ ⟨.inl rfl, rfl⟩)
        walk_at "ev"
        refine WSs.cons (WS.assign ?_ ⟨.inl rfl, rfl⟩)
        walk_at "ev"
        refine WSs.cut Unit (fun _ => True) (fun _ => [("count", .lst (s.wide.map .int)), ("n", .int (s.n + 1)), ("nt", .int (s.nt + 1)), ("b", .int s.b), ("self", .obj 83 [("raw", .str (S (p ++ [120, 32, 9])))]), ("S", .str (S [32])), ("T", .str (S [9]))]) (WS.if ?_) fun _ _ => ?_
        · walk_at "ev"
          · rw [List.length_map]; show s.cnt.length < _; omega
          rw [List.length_map]
          by_cases q : s.cnt.length ≤ s.b
          · rw [if_pos (decide_eq_true (show ((s.cnt.length : Nat) : Int) ≤ (s.b : Int) by omega))]
            refine WSs.cons (WS.assignNew (WN.lAdd (WV.name rfl ?_)) rfl rfl (fun _ e => by cases e; show selfN ≠ _; decide))
            walk_at "ev"
            · rw [List.length_map]; show s.cnt.length < _; omega
            · rw [List.length_map]; show 0 ≤ ((s.b : Nat) : Int) - ((s.cnt.length : Nat) : Int) + 1; omega
            · rw [List.length_map]; show ((s.b : Nat) : Int) - ((s.cnt.length : Nat) : Int) + 1 ≤ _; omega
            · refine ⟨_, _, rfl, rfl, ?_, ?_⟩
              · rw [List.length_map, List.length_replicate, sizeLine_eq]; show s.cnt.length + (((s.b : Nat) : Int) - ((s.cnt.length : Nat) : Int) + 1).toNat ≤ _; omega
              · have hw : s.cnt.map D.int ++ List.replicate ((s.b : Int) - ((s.cnt.map D.int).length : Nat) + 1).toNat (D.int 0) = s.wide.map .int := by
                  unfold Ws.wide
                  rw [if_pos q, List.map_append, List.map_replicate, List.length_map]
                  congr 2
                  omega
                rw [hw]
                exact WSs.nil ⟨(), trivial, ⟨rfl, rfl, rfl, rfl, rfl, rfl, rfl, trivial⟩⟩
          · rw [if_neg (by simpa using q)]
            have hw : s.cnt = s.wide := by unfold Ws.wide; rw [if_neg q]
            refine WSs.nil ⟨(), trivial, ⟨?_, rfl, rfl, rfl, rfl, rfl, rfl, trivial⟩⟩
            rw [← hw]; rfl
        · have hroom := ws_room s
          have hwl : s.wide.length ≤ 202 := by have := wide_len s; omega
          have hg : (s.wide.map D.int)[((s.b : Int)).toNat]? = some (.int (s.wide.getD s.b 0)) := by
            rw [Int.toNat_natCast, List.getElem?_map, List.getElem?_eq_getElem hroom]
            simp [List.getD, List.getElem?_eq_getElem hroom]
          refine WSs.cons (WS.setItem (WE.binop (WV.of (WE.sub (WV.name rfl (WV.of (WE.name rfl (JG.lst (by omega) hg (by omega) (WV.of (WE.int (J2.add (WE.name rfl ⟨s.b, rfl, ?_, ?_⟩)))))))))))  rfl ?_)
          · rw [List.length_map]; exact hroom
          · refine WSs.cons (WS.assign ?_ ⟨.inl rfl, rfl⟩)
            walk_at "ev"
            refine WSs.nil (WSs.nil (WSs.nil ⟨(cs, wsStep s 9), ⟨rfl, e2', e3', e4⟩, ⟨rfl, rfl, rfl, ?_, rfl, rfl, rfl, trivial⟩⟩))
            show some (D.lst _) = some (D.lst ((s.wide.set s.b (s.wide.getD s.b 0 + 1)).map D.int))
            rw [List.map_set]
          · rw [List.length_map]; omega
  · rintro ⟨cs, s⟩ ⟨e1, _⟩
    exfalso
    have := congrArg List.length e1
    simp at this
end
end

section
section
variable {prog : Program} {w : World} {B : Base (K0.heap_1 w.params)} {cx : Cx} {Ψ : D → Prop}

theorem mulOk' {a b : Int} (h : a.natAbs < 2 ^ 62) : IntMulOk a b := by
  refine IntMulOk.of_left ?_
  unfold Builtin.Int.intBits
  split
  · decide
  · have : a.natAbs.log2 < 63 := (Nat.log2_lt (by rename_i q; simpa using q)).mpr (Nat.lt_of_lt_of_le h (Nat.pow_le_pow_right (by decide) (by decide)))
    omega

noncomputable def Ws.fit (s : Ws) : Prop := s.b ≤ 100 ∧ s.cnt.length ≤ 202
noncomputable def runI (s : Ws) : Int := if (s.b : Int) > (s.cnt.length : Int) - 1 then s.b else (s.cnt.length : Int) - 1
theorem c_run (hf : 1 ≤ cx.fuel) (raw : D) (s : Ws) (hs : s.fit) (z : Ψ (.int (runI s))) : JC prog w B cx (.ref 45) [.obj 83 (leadF raw s)] Ψ := by
  refine JC.fn (f := 45) ["self"] [] hf (by rfl) (by decide) rfl (fun vs h => ?_) (by kernel_rfl) (by decide) (by decide) (by decide) rfl (fun L => ?_)
  · obtain ⟨a, rfl⟩ := ar1 h
    exact rfl
  refine WSs.cons (WS.assignTup ?_)
  walk_at "ev"
  refine WT.tuple (names := [("count", _), ("trailing", _)]) rfl (fun n hn => ?_) rfl ?_
  · rcases List.mem_cons.mp hn with rfl | hn
    · exact ⟨.inl rfl, rfl⟩
    · rw [List.mem_singleton.mp hn]; exact ⟨.inl rfl, rfl⟩
  refine WSs.cons (WS.ret (WE.callB (id := "max") (WA.of ?_) rfl (by kernel_rfl) (by kernel_rfl)))
  walk_at "ev"
  · rw [List.length_map]; have := hs.2; omega
  · rw [List.length_map]
    exact JC.max ⟨_, rfl, z⟩

noncomputable def ilStep (s : Ws) (ts : Nat) (il : Int) (i : Nat) : Int := il + ((ts : Int) + i).fdiv ts * s.cnt.getD (ts + i) 0
noncomputable def ilOf (s : Ws) (ts : Nat) : Int := (List.range (s.cnt.length - ts)).foldl (ilStep s ts) 0
noncomputable def indentI (s : Ws) (ts : Nat) : Int := s.b + ts * (ilOf s ts + s.nt)

theorem c_indent (hf : 1 ≤ cx.fuel) (raw : D) (s : Ws) (hs : s.fit) (ts : Nat) (h1 : 1 ≤ ts) (h2 : ts ≤ 1000) (z : Ψ (.int (indentI s ts))) : JC prog w B cx (.ref 52) [.obj 83 (leadF raw s), .int ts] Ψ := by
  refine JC.fn (f := 52) ["self", "tabsize"] [] hf (by rfl) (by decide) rfl (fun vs h => ?_) (by kernel_rfl) (by decide) (by decide) (by decide) rfl (fun L => ?_)
  · obtain ⟨a, b, rfl⟩ := ar2 h
    exact rfl
  refine WSs.cons (WS.assignTup ?_)
  walk_at "ev"
  refine WT.tuple (names := [("count", _), ("trailing", _)]) rfl (fun n hn => ?_) rfl ?_
  · rcases List.mem_cons.mp hn with rfl | hn
    · exact ⟨.inl rfl, rfl⟩
    · rw [List.mem_singleton.mp hn]; exact ⟨.inl rfl, rfl⟩
  refine WSs.cons (WS.assign (WE.int ?_) ⟨.inl rfl, rfl⟩)
  have hn2 := hs.2
  refine WSs.for (WI.range2 ?_ rfl (by kernel_rfl))
  walk_at "ev"
  · rw [List.length_map]; omega
  rw [List.length_map]
  refine ⟨ts, _, rfl, rfl, by omega, by omega, by omega, by omega, ?_⟩
  refine ⟨List Nat × Int, fun ds st => ds = st.1.map (fun (i : Nat) => D.int ((ts : Int) + i)) ∧ (∀ i ∈ st.1, ts + i < s.cnt.length) ∧ st.1.foldl (ilStep s ts) st.2 = ilOf s ts, fun st => [("self", .obj 83 (leadF raw s)), ("tabsize", .int ts), ("count", .tup (s.cnt.map .int)), ("trailing", .int s.b), ("il", .int st.2)],
    (List.range (s.cnt.length - ts), 0), ⟨?_, fun i hi => ?_, rfl⟩, ⟨rfl, rfl, rfl, rfl, rfl, trivial⟩, ?_, ?_⟩
  · unfold rangeD
    have : ((s.cnt.length : Int) - ts).toNat = s.cnt.length - ts := by omega
    rw [this]
  · have := List.mem_range.mp hi; omega
  · rintro d r ⟨is, il⟩ ⟨e1, e2, e3⟩
    cases is with
    | nil => cases e1
    | cons i is =>
      have e1 : d :: r = D.int ((ts : Int) + i) :: is.map (fun (i : Nat) => D.int ((ts : Int) + i)) := e1
      injection e1 with a b
      subst a b
      have hi : ts + i < s.cnt.length := e2 i (List.mem_cons_self ..)
      refine WT.name ⟨.inl rfl, rfl⟩ ?_
      refine WSs.cons (WS.assign ?_ ⟨.inl rfl, rfl⟩)
      walk_at "ev"
      · omega
      · omega
      · have hg : (s.cnt.map D.int)[((ts : Int) + i).toNat]? = some (.int (s.cnt.getD (ts + i) 0)) := by
          have : ((ts : Int) + i).toNat = ts + i := by omega
          rw [this, List.getElem?_map, List.getElem?_eq_getElem hi]
          simp [List.getD, List.getElem?_eq_getElem hi]
        refine JG.tup (by omega) hg (by omega) ?_
        refine J2.mul ?_ ?_
        · refine mulOk' ?_
          have : ((ts : Int) + i).fdiv ts = ((ts + i) / ts : Nat) := by
            rw [Int.fdiv_eq_ediv_of_nonneg _ (by omega)]; rfl
          rw [this]
          have : (ts + i) / ts ≤ ts + i := Nat.div_le_self ..
          show ((ts + i) / ts) < _
          omega
        walk_at "ev"
        exact WSs.nil ⟨(is, _), ⟨rfl, fun j hj => e2 j (List.mem_cons_of_mem _ hj), e3⟩, ⟨rfl, rfl, rfl, rfl, rfl, trivial⟩⟩
  · rintro ⟨is, il⟩ ⟨e1, e2, e3⟩
    have : is = [] := by simpa using e1.symm
    subst this
    refine WSs.cons (WS.ret ?_)
    walk_at "ev"
    · exact mulOk' (by omega)
    walk_at "ev"
    have e3 : il = ilOf s ts := e3
    rw [e3]
    exact z
end
end

section
section
variable {prog : Program} {w : World} {B : Base (K0.heap_1 w.params)} {cx : Cx} {Ψ : D → Prop}

theorem iteT {c : Prop} [Decidable c] {a b : Prop} (h : c) (x : a) : if c then a else b := by rw [if_pos h]; exact x
theorem iteF {c : Prop} [Decidable c] {a b : Prop} (h : ¬c) (x : b) : if c then a else b := by rw [if_neg h]; exact x
noncomputable def runN (s : Ws) : Nat := max (s.cnt.length - 1) s.b
theorem runI_eq (s : Ws) : runI s = (runN s : Nat) := by
  unfold runI runN
  split <;> omega
noncomputable def Ws.simple (s : Ws) : Bool := decide (s.cnt.length ≤ 1)
noncomputable def topN (s o : Ws) : Nat := max (runN s) (runN o) + 1
noncomputable def lessB (s o : Ws) : Bool :=
  if o.n ≤ s.n then false else if s.simple && o.simple then decide (s.nt ≤ o.nt) else (List.range (topN s o - 1)).all fun i => decide (indentI s (2 + i) < indentI o (2 + i))

theorem c_less (hf : 5 ≤ cx.fuel) (raw raw' : D) (s o : Ws) (hs : s.fit) (ho : o.fit) (z : Ψ (.bool (lessB s o))) : JC prog w B cx (.ref 73) [.obj 83 (leadF raw s), .obj 83 (leadF raw' o)] Ψ := by
  refine JC.fn (f := 73) ["self", "other"] [] (by omega) (by rfl) (by decide) rfl (fun vs h => ?_) (by kernel_rfl) (by decide) (by decide) (by decide) rfl (fun L => ?_)
  · obtain ⟨a, b, rfl⟩ := ar2 h
    exact rfl
  have b1 := hs.1; have b2 := hs.2; have b3 := ho.1; have b4 := ho.2
  refine WSs.cons (WS.if ?_)
  walk_at "ev"
  by_cases hn : o.n ≤ s.n
  · rw [if_pos (decide_eq_true (show ((o.n : Nat) : Int) ≤ (s.n : Nat) by omega))]
    refine WSs.cons (WS.ret (WE.bool ⟨_, rfl, ?_⟩))
    unfold lessB at z; rw [if_pos hn] at z; exact z
  rw [if_neg (by simpa using hn)]
  unfold lessB at z
  rw [if_neg hn] at z
  refine WSs.nil ?_
  refine WSs.cut Unit (fun _ => (s.simple && o.simple) = false) (fun _ => [("self", .obj 83 (leadF raw s)), ("other", .obj 83 (leadF raw' o))]) (WS.if (WB.and (WB.other (WV.of ?_)))) fun _ hq => ?_
  · walk_at "ev"
    refine JT.bool ?_
    have e1 : decide (s.cnt.length ≤ 1) = s.simple := rfl
    rw [e1]
    by_cases q1 : s.simple = true
    · refine iteT q1 ?_
      refine WB.other (WV.of ?_)
      walk_at "ev"
      refine JT.bool ?_
      have e2 : decide (o.cnt.length ≤ 1) = o.simple := rfl
      rw [e2]
      by_cases q2 : o.simple = true
      · refine iteT q2 ?_
        refine WSs.cons (WS.ret ?_)
        walk_at "ev"
        rw [if_pos (by rw [q1, q2]; rfl)] at z
        have : decide (((s.nt : Nat) : Int) ≤ (o.nt : Nat)) = decide (s.nt ≤ o.nt) := by
          by_cases q : s.nt ≤ o.nt
          · rw [decide_eq_true q, decide_eq_true (by omega)]
          · rw [decide_eq_false q, decide_eq_false (by omega)]
        rw [this]; exact z
      · refine iteF q2 ?_
        exact WSs.nil ⟨(), by rw [Bool.eq_false_iff.mpr q2, Bool.and_false], ⟨rfl, rfl, trivial⟩⟩
    · refine iteF q1 (iteF (by decide) ?_)
      exact WSs.nil ⟨(), by rw [Bool.eq_false_iff.mpr q1, Bool.false_and], ⟨rfl, rfl, trivial⟩⟩
  rw [if_neg (by rw [hq]; decide)] at z
  have hr1 : runN s ≤ 202 := by unfold runN; omega
  have hr2 : runN o ≤ 202 := by unfold runN; omega
  have hN : topN s o ≤ 203 := by unfold topN; omega
  refine WSs.cons (WS.assign (WE.binop (WV.of (WE.callB (id := "max") (WA.of (WL.cons ?_ fun _ => rfl)) rfl (by kernel_rfl) (by kernel_rfl)))) ⟨.inl rfl, rfl⟩)
  refine WE.meth (pl := ?pl1) (WE.name rfl ⟨83, _, 45, rfl, rfl, by kernel_rfl, by kernel_rfl, by kernel_rfl, by kernel_rfl, WA.nil (c_run (by show 1 ≤ cx.fuel - 1; omega) raw s hs ?_)⟩) ?he1
  case he1 => rfl
  refine WL.cons (WE.meth (pl := ?pl2) (WE.name rfl ⟨83, _, 45, rfl, rfl, by kernel_rfl, by kernel_rfl, by kernel_rfl, by kernel_rfl, WA.nil (c_run (by show 1 ≤ cx.fuel - 1; omega) raw' o ho (WL.nil (JC.max ?_)))⟩) ?he2) fun _ => rfl
  case he2 => rfl
  walk_at "ev"
  have hmax : (if runI o > runI s then runI o else runI s) + 1 = ((topN s o : Nat) : Int) := by
    rw [runI_eq, runI_eq]; unfold topN; split <;> omega
  rw [hmax]
  refine WSs.for (WI.range2 ?_ rfl (by kernel_rfl))
  walk_at "ev"
  refine ⟨2, _, rfl, rfl, by omega, by omega, by omega, by omega, ?_⟩
  have hrange : rangeD 2 ((topN s o : Int) + 1) = (List.range (topN s o - 1)).map fun (i : Nat) => D.int ((2 : Int) + i) := by
    unfold rangeD
    have : (((topN s o : Nat) : Int) + 1 - 2).toNat = topN s o - 1 := by omega
    rw [this]
  refine ⟨List Nat, fun ds st => ds = st.map (fun (i : Nat) => D.int ((2 : Int) + i)) ∧ (∀ i ∈ st, i ≤ 202) ∧ (st.all fun i => decide (indentI s (2 + i) < indentI o (2 + i))) = ((List.range (topN s o - 1)).all fun i => decide (indentI s (2 + i) < indentI o (2 + i))), fun st => [("self", .obj 83 (leadF raw s)), ("other", .obj 83 (leadF raw' o))],
    List.range (topN s o - 1), ⟨hrange, fun i hi => ?_, rfl⟩, ⟨rfl, rfl, trivial⟩, ?_, ?_⟩
  · have := List.mem_range.mp hi; omega
  · rintro d r is ⟨e1, e2, e3⟩
    cases is with
    | nil => cases e1
    | cons i is =>
      have e1 : d :: r = D.int ((2 : Int) + i) :: is.map (fun (i : Nat) => D.int ((2 : Int) + i)) := e1
      injection e1 with a b
      subst a b
      have hi : i ≤ 202 := e2 i (List.mem_cons_self ..)
      have hc : ((2 : Int) + i) = ((2 + i : Nat) : Int) := by omega
      refine WT.name ⟨.inl rfl, rfl⟩ ?_
      refine WSs.cons (WS.if (WB.compare (WV.of ?_)))
      refine WE.meth (pl := ?pl3) (WE.name rfl ⟨83, _, 52, rfl, rfl, by kernel_rfl, by kernel_rfl, by kernel_rfl, by kernel_rfl, WA.of (WL.cons (WE.name rfl (WL.nil ?_)) fun _ => rfl)⟩) ?he3
      case he3 => rfl
      rw [hc]
      refine c_indent (by show 1 ≤ cx.fuel - 1; omega) raw s hs (2 + i) (by omega) (by omega) (WV.of ?_)
      refine WE.meth (pl := ?pl4) (WE.name rfl ⟨83, _, 52, rfl, rfl, by kernel_rfl, by kernel_rfl, by kernel_rfl, by kernel_rfl, WA.of (WL.cons (WE.name rfl (WL.nil ?_)) fun _ => rfl)⟩) ?he4
      case he4 => rfl
      refine c_indent (by show 1 ≤ cx.fuel - 1; omega) raw' o ho (2 + i) (by omega) (by omega) (J2.ge ⟨_, rfl, ?_⟩)
      have e3 : (decide (indentI s (2 + i) < indentI o (2 + i)) && is.all fun i => decide (indentI s (2 + i) < indentI o (2 + i))) = _ := e3
      by_cases q : indentI o (2 + i) ≤ indentI s (2 + i)
      · rw [if_pos (decide_eq_true q)]
        refine WSs.cons (WS.ret (WE.bool ⟨_, rfl, ?_⟩))
        rw [← e3, decide_eq_false (by omega), Bool.false_and] at z
        exact z
      · rw [if_neg (by simpa using q)]
        refine WSs.nil (WSs.nil ⟨is, ⟨rfl, fun j hj => e2 j (List.mem_cons_of_mem _ hj), ?_⟩, ⟨rfl, rfl, trivial⟩⟩)
        rw [← e3, decide_eq_true (by omega), Bool.true_and]
  · rintro is ⟨e1, e2, e3⟩
    have : is = [] := by simpa using e1.symm
    subst this
    refine WSs.cons (WS.ret (WE.bool ⟨_, rfl, ?_⟩))
    rw [← e3] at z
    exact z
end
end

section

/-! ## the column and the counts -/
noncomputable def sumFrom (g : Nat → Int) : Nat → List Int → Int
  | _, [] => 0
  | k, x :: r => g k * x + sumFrom g (k + 1) r
theorem sumFrom_append (g : Nat → Int) : ∀ (a b : List Int) (k : Nat), sumFrom g k (a ++ b) = sumFrom g k a + sumFrom g (k + a.length) b
  | [], b, k => by simp [sumFrom]
  | x :: a, b, k => by
    show g k * x + sumFrom g (k + 1) (a ++ b) = g k * x + sumFrom g (k + 1) a + _
    rw [sumFrom_append g a b (k + 1), List.length_cons]
    have : k + 1 + a.length = k + (a.length + 1) := by omega
    rw [this]; omega
theorem sumFrom_zeros (g : Nat → Int) : ∀ (n k : Nat), sumFrom g k (List.replicate n 0) = 0
  | 0, _ => rfl
  | n + 1, k => by
    show g k * 0 + sumFrom g (k + 1) (List.replicate n 0) = 0
    rw [sumFrom_zeros g n]; omega
theorem sumFrom_set (g : Nat → Int) (v : Int) : ∀ (l : List Int) (i k : Nat), i < l.length → sumFrom g k (l.set i v) = sumFrom g k l + g (k + i) * (v - l.getD i 0)
  | [], _, _, h => absurd h (Nat.not_lt_zero _)
  | x :: l, 0, k, _ => by
    show g k * v + sumFrom g (k + 1) l = g k * x + sumFrom g (k + 1) l + g (k + 0) * (v - x)
    rw [Nat.add_zero, Int.mul_sub]
    show g k * v + _ = g k * x + _ + (g k * v - g k * x)
    omega
  | x :: l, i + 1, k, h => by
    show g k * x + sumFrom g (k + 1) (l.set i v) = g k * x + sumFrom g (k + 1) l + g (k + (i + 1)) * (v - l.getD i 0)
    rw [sumFrom_set g v l i (k + 1) (by simpa using h)]
    have : k + 1 + i = k + (i + 1) := by omega
    rw [this]; omega
theorem sumFrom_low (g : Nat → Int) : ∀ (l : List Int) (k : Nat), (∀ j, k ≤ j → j < k + l.length → g j = 0) → sumFrom g k l = 0
  | [], _, _ => rfl
  | x :: l, k, h => by
    show g k * x + sumFrom g (k + 1) l = 0
    rw [h k (Nat.le_refl _) (by simp), sumFrom_low g l (k + 1) fun j h1 h2 => h j (by omega) (by rw [List.length_cons]; omega)]
    omega
theorem sumFrom_fold (g : Nat → Int) : ∀ (l : List Int) (k : Nat) (a : Int), (List.range l.length).foldl (fun a i => a + g (k + i) * l.getD i 0) a = a + sumFrom g k l
  | [], _, _ => by simp [sumFrom]
  | x :: l, k, a => by
    rw [List.length_cons, List.range_succ_eq_map, List.foldl_cons, List.foldl_map]
    have ih := sumFrom_fold g l (k + 1) (a + g k * x)
    show _ = a + (g k * x + sumFrom g (k + 1) l)
    rw [← Int.add_assoc, ← ih]
    congr 1
    funext a i
    have : k + (i + 1) = k + 1 + i := by omega
    simp [this]

noncomputable def gTs (ts : Nat) (j : Nat) : Int := ((j / ts : Nat) : Int)
theorem ilOf_eq (s : Ws) (ts : Nat) (h : 1 ≤ ts) : ilOf s ts = sumFrom (gTs ts) 0 s.cnt := by
  have hs : sumFrom (gTs ts) 0 s.cnt = sumFrom (gTs ts) 0 (s.cnt.take ts) + sumFrom (gTs ts) (0 + (s.cnt.take ts).length) (s.cnt.drop ts) := by
    rw [← sumFrom_append, List.take_append_drop]
  have h0 : sumFrom (gTs ts) 0 (s.cnt.take ts) = 0 := sumFrom_low _ _ _ fun j _ h2 => by
    have : j < ts := by rw [List.length_take] at h2; omega
    unfold gTs; rw [Nat.div_eq_of_lt this]; rfl
  rw [hs, h0]
  unfold ilOf
  by_cases hl : ts ≤ s.cnt.length
  · have hlen : (s.cnt.take ts).length = ts := by rw [List.length_take]; omega
    rw [hlen]
    have := sumFrom_fold (gTs ts) (s.cnt.drop ts) ts 0
    rw [List.length_drop] at this
    rw [Nat.zero_add, ← this]
    congr 1
    funext a i
    unfold ilStep gTs
    have e1 : ((ts : Int) + i).fdiv ts = (((ts + i) / ts : Nat) : Int) := by
      rw [Int.fdiv_eq_ediv_of_nonneg _ (by omega)]; rfl
    have e2 : (s.cnt.drop ts).getD i 0 = s.cnt.getD (ts + i) 0 := by
      simp [List.getD, List.getElem?_drop]
    rw [e1, e2]
  · have h1 : s.cnt.length - ts = 0 := by omega
    have h2 : s.cnt.drop ts = [] := List.drop_eq_nil_of_le (by omega)
    rw [h1, h2]; rfl

theorem wide_sum (g : Nat → Int) (s : Ws) : sumFrom g 0 s.wide = sumFrom g 0 s.cnt := by
  unfold Ws.wide
  split
  · rw [sumFrom_append, sumFrom_zeros, Int.add_zero]
  · rfl
theorem step_sum (g : Nat → Int) (s : Ws) : sumFrom g 0 (s.wide.set s.b (s.wide.getD s.b 0 + 1)) = sumFrom g 0 s.cnt + g s.b := by
  rw [sumFrom_set g _ _ _ _ (ws_room s), wide_sum, Nat.zero_add]
  have : s.wide.getD s.b 0 + 1 - s.wide.getD s.b 0 = 1 := by omega
  rw [this, Int.mul_one]

noncomputable def levelI (ts : Nat) (s : Ws) : Int := s.b + ts * (sumFrom (gTs ts) 0 s.cnt + s.nt)
theorem indentI_eq (s : Ws) (ts : Nat) (h : 1 ≤ ts) : indentI s ts = levelI ts s := by unfold indentI levelI; rw [ilOf_eq s ts h]
theorem level_step (ts : Nat) (h : 1 ≤ ts) (s : Ws) (c : Nat) (hc : c = 32 ∨ c = 9) : columnStep ts (levelI ts s) c = levelI ts (wsStep s c) := by
  rcases hc with rfl | rfl
  · unfold columnStep wsStep levelI
    rw [if_neg (by decide), if_pos rfl]
    show (s.b : Int) + ts * (sumFrom (gTs ts) 0 s.cnt + s.nt) + 1 = ((s.b + 1 : Nat) : Int) + ts * (sumFrom (gTs ts) 0 s.cnt + s.nt)
    omega
  · unfold columnStep wsStep levelI
    rw [if_pos rfl, if_neg (by decide)]
    show _ = ((0 : Nat) : Int) + (ts : Int) * (sumFrom (gTs ts) 0 (s.wide.set s.b (s.wide.getD s.b 0 + 1)) + ((s.nt + 1 : Nat) : Int))
    rw [step_sum]
    have e : ∀ M : Int, ((s.b : Int) + ts * M).fdiv ts = gTs ts s.b + M := fun M => by
      rw [Int.fdiv_eq_ediv_of_nonneg _ (by omega), Int.add_mul_ediv_left _ _ (by omega)]
      rfl
    rw [e, Int.mul_comm, Int.natCast_zero, Int.zero_add]
    congr 1
    omega

theorem ws_append (a b : List Nat) : ws (a ++ b) = b.foldl wsStep (ws a) := by unfold ws; rw [List.foldl_append]
theorem level_fold (ts : Nat) (h : 1 ≤ ts) : ∀ (p : List Nat), Blank p → ∀ s : Ws, p.foldl (columnStep ts) (levelI ts s) = levelI ts (p.foldl wsStep s)
  | [], _, _ => rfl
  | c :: p, hp, s => by
    rw [List.foldl_cons, List.foldl_cons, level_step ts h s c (hp c (List.mem_cons_self ..))]
    exact level_fold ts h p (fun x hx => hp x (List.mem_cons_of_mem _ hx)) _
/-- the indent level is the column -/
theorem indent_column (ts : Nat) (h : 1 ≤ ts) (p : List Nat) (hp : Blank p) : indentI (ws p) ts = column ts p := by
  rw [indentI_eq _ _ h]
  have := level_fold ts h p hp ⟨[], 0, 0, 0⟩
  have z : levelI ts ⟨[], 0, 0, 0⟩ = 0 := by
    show ((0 : Nat) : Int) + ts * (0 + ((0 : Nat) : Int)) = 0
    simp
  rw [z] at this
  exact this.symm

theorem column_lt (ts : Nat) (h : 1 ≤ ts) (col : Int) (h0 : 0 ≤ col) (c : Nat) : col < columnStep ts col c := by
  unfold columnStep
  split
  · rw [Int.fdiv_eq_ediv_of_nonneg _ (by omega)]
    have h1 := Int.lt_ediv_add_one_mul_self col (b := (ts : Int)) (by omega)
    exact h1
  · omega
theorem column_grow (ts : Nat) (h : 1 ≤ ts) : ∀ (e : List Nat) (col : Int), 0 ≤ col → col ≤ e.foldl (columnStep ts) col ∧ (e ≠ [] → col < e.foldl (columnStep ts) col)
  | [], col, _ => ⟨Int.le_refl _, fun h => absurd rfl h⟩
  | c :: e, col, h0 => by
    have h1 := column_lt ts h col h0 c
    have h2 := (column_grow ts h e (columnStep ts col c) (by omega)).1
    rw [List.foldl_cons]
    exact ⟨by omega, fun _ => by omega⟩
theorem column_pos (ts : Nat) (h : 1 ≤ ts) (p : List Nat) : 0 ≤ column ts p := (column_grow ts h p 0 (Int.le_refl _)).1
theorem column_append (ts : Nat) (p e : List Nat) : column ts (p ++ e) = e.foldl (columnStep ts) (column ts p) := by unfold column; rw [List.foldl_append]

theorem step_n (s : Ws) (c : Nat) : (wsStep s c).n = s.n + 1 ∧ s.nt ≤ (wsStep s c).nt := by
  unfold wsStep; split
  · exact ⟨rfl, Nat.le_refl _⟩
  · exact ⟨rfl, Nat.le_succ _⟩
theorem fold_n : ∀ (p : List Nat) (s : Ws), (p.foldl wsStep s).n = s.n + p.length ∧ s.nt ≤ (p.foldl wsStep s).nt
  | [], s => ⟨rfl, Nat.le_refl _⟩
  | c :: p, s => by
    have h1 := step_n s c
    have h2 := fold_n p (wsStep s c)
    rw [List.foldl_cons, List.length_cons]
    exact ⟨by omega, by omega⟩
theorem ws_n (p : List Nat) : (ws p).n = p.length := by
  have := (fold_n p ⟨[], 0, 0, 0⟩).1
  rw [Nat.zero_add] at this; exact this

/-- (A) a path is less than what goes on from it -/
theorem less_ext (p e : List Nat) (hp : Blank (p ++ e)) (he : e ≠ []) : lessB (ws p) (ws (p ++ e)) = true := by
  have hel : 1 ≤ e.length := List.length_pos_iff.mpr he
  unfold lessB
  rw [ws_n, ws_n, List.length_append, if_neg (by omega)]
  split
  · rw [ws_append]; exact decide_eq_true (fold_n e (ws p)).2
  · refine List.all_eq_true.mpr fun i _ => decide_eq_true ?_
    rw [indent_column _ (by omega) p fun c hc => hp c (List.mem_append_left _ hc), indent_column _ (by omega) _ hp, column_append]
    exact (column_grow _ (by omega) e _ (column_pos _ (by omega) p)).2 he
/-- (B) nothing is less than what is no longer -/
theorem less_short (p q : List Nat) (h : q.length ≤ p.length) : lessB (ws p) (ws q) = false := by
  unfold lessB
  rw [ws_n, ws_n, if_pos h]

theorem spaces (k : Nat) : ∀ s : Ws, (List.replicate k 32).foldl wsStep s = { s with b := s.b + k, n := s.n + k } := by
  induction k with
  | zero => intro s; rfl
  | succ k ih =>
    intro s
    rw [List.replicate_succ, List.foldl_cons, ih]
    show Ws.mk s.cnt (s.b + 1 + k) (s.n + 1 + k) s.nt = _
    have e1 : s.b + 1 + k = s.b + (k + 1) := by omega
    have e2 : s.n + 1 + k = s.n + (k + 1) := by omega
    rw [e1, e2]
theorem il_top (s : Ws) (N : Nat) (h : runN s < N) : ilOf s N = 0 := by
  unfold ilOf
  have : s.cnt.length - N = 0 := by unfold runN at h; omega
  rw [this]; rfl
theorem wide_le (s : Ws) : s.b < (wsStep s 9).cnt.length := by
  show s.b < (s.wide.set s.b _).length
  rw [List.length_set]; exact ws_room s

/-- what the blanks are: some spaces, and a tab or none -/
noncomputable def Blanks (l : List Nat) : Prop := ∃ k, 1 ≤ k ∧ (l = List.replicate k 32 ∨ l = List.replicate k 32 ++ [9])

/-- (C) a path in one branch is not less than the root of the other -/
theorem topN_l (P Q : Ws) : runN P < topN P Q := Nat.lt_succ_of_le (Nat.le_max_left ..)
theorem topN_r (P Q : Ws) : runN Q < topN P Q := Nat.lt_succ_of_le (Nat.le_max_right ..)
theorem runN_b (P : Ws) : P.b ≤ runN P := Nat.le_max_right ..
theorem runN_c (P : Ws) : P.cnt.length - 1 ≤ runN P := Nat.le_max_left ..
theorem topN_in {P Q : Ws} (h : 1 ≤ runN Q) : topN P Q - 2 < topN P Q - 1 ∧ 2 + (topN P Q - 2) = topN P Q := by
  have := topN_r P Q
  omega
theorem less_branch (a x blanks s s' : List Nat) (hb : Blanks blanks) (h : (s = [9] ∧ s' = blanks) ∨ (s = blanks ∧ s' = [9])) : lessB (ws (a ++ s ++ x)) (ws (a ++ s')) = false := by
  obtain ⟨k, hk, hb⟩ := hb
  have hbl : 1 ≤ blanks.length := by rcases hb with rfl | rfl <;> simp <;> omega
  rcases h with ⟨rfl, rfl⟩ | ⟨rfl, rfl⟩
  · by_cases hle : (a ++ s').length ≤ (a ++ [9] ++ x).length
    · exact less_short _ _ hle
    have hP : (ws a).nt + 1 ≤ (ws (a ++ [9] ++ x)).nt := by
      rw [List.append_assoc, ws_append, List.foldl_append]
      have := (fold_n x ([9].foldl wsStep (ws a))).2
      exact Nat.le_trans (Nat.le_refl _) this
    unfold lessB
    rw [ws_n, ws_n, if_neg hle]
    generalize hp : ws (a ++ [9] ++ x) = P at hP
    rcases hb with rfl | rfl
    · have hq : ws (a ++ List.replicate k 32) = { ws a with b := (ws a).b + k, n := (ws a).n + k } := by rw [ws_append, spaces]
      generalize hQ : ws (a ++ List.replicate k 32) = Q at hq
      have hnt : Q.nt = (ws a).nt := by rw [hq]
      have hqb : 1 ≤ Q.b := by rw [hq]; show 1 ≤ (ws a).b + k; omega
      split
      · exact decide_eq_false (by omega)
      · have hT := topN_in (P := P) (Nat.le_trans hqb (runN_b Q))
        refine List.all_eq_false.mpr ⟨topN P Q - 2, List.mem_range.mpr hT.1, ?_⟩
        · have hN := hT.2
          rw [hN]
          have h1 := topN_l P Q
          have h2 := topN_r P Q
          have hqN : Q.b < topN P Q := Nat.lt_of_le_of_lt (runN_b Q) h2
          simp only [decide_eq_true_eq]
          unfold indentI
          rw [il_top P _ h1, il_top Q _ h2, hnt, Int.zero_add, Int.zero_add]
          have : (topN P Q : Int) * ((ws a).nt + 1) ≤ topN P Q * P.nt := Int.mul_le_mul_of_nonneg_left (by omega) (by omega)
          rw [Int.mul_add, Int.mul_one] at this
          omega
    · have hq : ws (a ++ (List.replicate k 32 ++ [9])) = wsStep { ws a with b := (ws a).b + k, n := (ws a).n + k } 9 := by rw [ws_append, List.foldl_append, spaces]; rfl
      generalize hQ : ws (a ++ (List.replicate k 32 ++ [9])) = Q at hq
      have hnt : Q.nt = (ws a).nt + 1 := by rw [hq]; rfl
      have hqb : Q.b = 0 := by rw [hq]; rfl
      have hqc : 2 ≤ Q.cnt.length := by
        have := wide_le { ws a with b := (ws a).b + k, n := (ws a).n + k }
        rw [← hq] at this
        have : (ws a).b + k < Q.cnt.length := this
        omega
      have hqs : Q.simple = false := by unfold Ws.simple; exact decide_eq_false (by omega)
      rw [hqs, Bool.and_false, if_neg (by decide)]
      have hT := topN_in (P := P) (Nat.le_trans (by omega) (runN_c Q))
      refine List.all_eq_false.mpr ⟨topN P Q - 2, List.mem_range.mpr hT.1, ?_⟩
      · have hN := hT.2
        rw [hN]
        have h1 := topN_l P Q
        have h2 := topN_r P Q
        simp only [decide_eq_true_eq]
        unfold indentI
        rw [il_top P _ h1, il_top Q _ h2, hnt, hqb, Int.zero_add, Int.zero_add]
        have : (topN P Q : Int) * ((ws a).nt + 1) ≤ topN P Q * P.nt := Int.mul_le_mul_of_nonneg_left (by omega) (by omega)
        rw [Int.natCast_add, Int.natCast_one, Int.natCast_zero]
        omega
  · refine less_short _ _ ?_
    rw [List.length_append, List.length_append, List.length_append]
    have : [9].length = 1 := rfl
    omega
end

section

/-- one sign, replaced all over -/
noncomputable def rp (c : Nat) (z l : List Nat) : List Nat := l.flatMap fun x => if x = c then z else [x]
theorem rp_append (c : Nat) (z a b : List Nat) : rp c z (a ++ b) = rp c z a ++ rp c z b := List.flatMap_append ..
theorem rp_free (c : Nat) (z : List Nat) : ∀ l : List Nat, c ∉ l → rp c z l = l
  | [], _ => rfl
  | k :: r, h => by
    have h1 : ¬ k = c := fun e => h (e ▸ List.mem_cons_self ..)
    have : rp c z (k :: r) = (if k = c then z else [k]) ++ rp c z r := List.flatMap_cons ..
    rw [this, if_neg h1, rp_free c z r fun m => h (List.mem_cons_of_mem _ m)]; rfl
theorem rp_join (c : Nat) (z : List Nat) : ∀ parts : List Str, (∀ p ∈ parts, c ∉ p.cps.toList) → rp c z (Str.join (S [c]) parts).cps.toList = (Str.join (S z) parts).cps.toList
  | [], _ => rfl
  | [p], h => rp_free c z _ (h p (List.mem_singleton.mpr rfl))
  | p :: q :: r, h => by
    have ih := rp_join c z (q :: r) fun a ha => h a (List.mem_cons_of_mem _ ha)
    show rp c z (p ++ S [c] ++ Str.join (S [c]) (q :: r)).cps.toList = (p ++ S z ++ Str.join (S z) (q :: r)).cps.toList
    simp only [Str.cps_append, Array.toList_append]
    rw [rp_append, rp_append, ih, rp_free c z _ (h p (List.mem_cons_self ..))]
    have : rp c z (S [c]).cps.toList = z := by show rp c z [c] = z; simp [rp]
    rw [this]
theorem replace_S (c : Nat) (z l : List Nat) : Txt.replace (S l) (S [c]) (S z) = S (rp c z l) := by
  have h := StrLaws.replace_one (S l) (S z) c
  have e : (Txt.replace (S l) (S [c]) (S z)).cps.toList = rp c z l := by
    show (Txt.replace (S l) ⟨#[c]⟩ (S z)).cps.toList = _
    rw [h, ← rp_join c z _ (StrLaws.split_free (S l) c)]
    show rp c z (Str.join ⟨#[c]⟩ (Txt.split (S l) ⟨#[c]⟩)).cps.toList = _
    rw [StrLaws.join_split]
  rw [← S_of (Txt.replace (S l) (S [c]) (S z)), e]

noncomputable def encT (t : List (Nat × List Nat)) (x : Nat) : List Nat := (t.lookup x).getD [x]
theorem encT_len {t : List (Nat × List Nat)} (h : t.all (fun e => decide (e.2.length ≤ 6)) = true) (x : Nat) : (encT t x).length ≤ 6 := by
  unfold encT
  induction t with
  | nil => exact Nat.le_of_ble_eq_true rfl
  | cons e t ih =>
    rw [List.all_cons, Bool.and_eq_true] at h
    rw [List.lookup_cons]
    split
    · exact of_decide_eq_true h.1
    · exact ih h.2
theorem encT_add {t : List (Nat × List Nat)} {c : Nat} {z : List Nat} (h : t.all (fun e => decide (e.1 ≠ c) && decide (c ∉ e.2)) = true) (x : Nat) : rp c z (encT t x) = encT (t ++ [(c, z)]) x := by
  unfold encT
  induction t with
  | nil =>
    rw [List.nil_append, List.lookup_cons, List.lookup_nil]
    by_cases q : x = c
    · subst q; simp [rp]
    · have : (x == c) = false := by simpa using q
      rw [this]; simp [rp, q]
  | cons e t ih =>
    rw [List.all_cons, Bool.and_eq_true, Bool.and_eq_true] at h
    rw [List.cons_append, List.lookup_cons, List.lookup_cons]
    split
    · exact rp_free c z _ (of_decide_eq_true h.1.2)
    · exact ih h.2
noncomputable def enc (t : List (Nat × List Nat)) (l : List Nat) : List Nat := l.flatMap (encT t)
theorem enc_len {t : List (Nat × List Nat)} (h : t.all (fun e => decide (e.2.length ≤ 6)) = true) : ∀ l : List Nat, (enc t l).length ≤ 6 * l.length
  | [] => Nat.le_refl _
  | x :: l => by
    have : enc t (x :: l) = encT t x ++ enc t l := List.flatMap_cons ..
    rw [this, List.length_append, List.length_cons]
    have := encT_len h x
    have := enc_len h l
    omega
theorem enc_add {t : List (Nat × List Nat)} {c : Nat} {z : List Nat} (h : t.all (fun e => decide (e.1 ≠ c) && decide (c ∉ e.2)) = true) (l : List Nat) : rp c z (enc t l) = enc (t ++ [(c, z)]) l := by
  unfold enc
  induction l with
  | nil => rfl
  | cons x l ih =>
    rw [List.flatMap_cons, List.flatMap_cons, rp_append, ih, encT_add h]
theorem enc_nil (l : List Nat) : enc [] l = l := by
  unfold enc
  induction l with
  | nil => rfl
  | cons x l ih => rw [List.flatMap_cons, ih]; rfl
theorem enc_append (t : List (Nat × List Nat)) (a b : List Nat) : enc t (a ++ b) = enc t a ++ enc t b := List.flatMap_append ..
theorem in_S (l : List Nat) (c : Nat) : (!(Builtin.Str.occurrences (S l) (S [c]) 0 (S l).length 1).isEmpty) = decide (c ∈ l) := StrLaws.found_one (S l) c

section
variable {prog : Program} {w : World} {B : Base (K0.heap_1 w.params)} {cx : Cx} {Ψ : D → Prop} {Φ : Fl → List (Str × D) → Prop}

/-- one line of an escape -/
theorem esc_step {y y' : Str} {c1 c2 c3 : Nat} {p1 p2 p3 p4 p5 p6 p7 p8 p9 p10 p11 : Pos} {rest : List Stmt} {t : List (Nat × List Nat)} {l : List Nat} (c : Nat) (z : List Nat) (hy : y = S [c]) (hy' : y' = S z) (hl : l.length ≤ 1000) (h6 : t.all (fun e => decide (e.2.length ≤ 6)) = true) (hz : z.length ≤ 10) (hne : [c] ≠ z)
    (h : t.all (fun e => decide (e.1 ≠ c) && decide (c ∉ e.2)) = true) (hcs : CanStore cx "text") (hsw : swapsWith (.Call (.Attribute (.Name "text" p6) "replace" p7) [.Constant (.str y) c2 p8, .Constant (.str y') c3 p9] [] p10) (some (.Name "text" p5)) p4.line cx.env = pure false)
    (hm : behindInMarks .In (.Name "text" p2) = false) (pl : Sem Bool)
    (he : eval (.Call (.Attribute (.Name "text" p6) "replace" p7) [.Constant (.str y) c2 p8, .Constant (.str y') c3 p9] [] p10) cx.env = (do let ov ← eval (.Name "text" p6) cx.env; standAt p7.atName; let (f, first) ← holding [ov] (getMethod ov "replace" pl); callWith p10 f first (backTo p10 (starEach [.Constant (.str y) c2 p8, .Constant (.str y') c3 p9] cx.env)) []))
    (x : WSs prog w B cx rest Φ [("text", .str (S (enc (t ++ [(c, z)]) l)))]) :
    WSs prog w B cx (.If (.Compare (.Constant (.str y) c1 p1) [.In] [.Name "text" p2] p3) [.Assign [.Name "text" p5] (.Call (.Attribute (.Name "text" p6) "replace" p7) [.Constant (.str y) c2 p8, .Constant (.str y') c3 p9] [] p10) p4] [] p11 :: rest) Φ [("text", .str (S (enc t l)))] := by
  subst hy hy'
  have hmu := hcs.2
  refine WSs.cut Unit (fun _ => True) (fun _ => [("text", .str (S (enc (t ++ [(c, z)]) l)))]) (WS.if (WB.compare (WV.of (WE.str (WV.of (WE.name rfl ?_ hmu)))) hm)) fun _ _ => x
  refine J2.sIn ⟨_, rfl, ?_⟩
  rw [in_S]
  by_cases q : c ∈ enc t l
  · refine iteT (decide_eq_true q) ?_
    refine WSs.cons (WS.assign (WE.replace (pl := pl) (WE.name rfl ⟨_, rfl, ?_, ?_⟩ hmu) ?_ ?_ he) hcs hsw)
    · rw [S_length]; have := enc_len h6 l; omega
    · rw [replace_S, enc_add h]
      exact WSs.nil ⟨(), trivial, ⟨rfl, trivial⟩⟩
    · rw [S_beq]; exact decide_eq_false hne
    · rw [S_length]; exact hz
  · refine iteF (by simpa using q) ?_
    have : enc (t ++ [(c, z)]) l = enc t l := by rw [← enc_add h, rp_free c z _ q]
    rw [this]
    exact WSs.nil ⟨(), trivial, ⟨rfl, trivial⟩⟩
end
end

section
section
variable {prog : Program} {w : World} {B : Base (K0.heap_1 w.params)} {cx : Cx} {Ψ : D → Prop}

noncomputable def codes0 : List (Nat × List Nat) := [(38, [38, 97, 109, 112, 59]), (60, [38, 108, 116, 59]), (62, [38, 103, 116, 59])]
noncomputable def codes1 : List (Nat × List Nat) := [(38, [38, 97, 109, 112, 59]), (60, [38, 108, 116, 59]), (62, [38, 103, 116, 59]), (13, [38, 35, 120, 68, 59])]
noncomputable def codes2 : List (Nat × List Nat) := [(38, [38, 97, 109, 112, 59]), (62, [38, 103, 116, 59]), (34, [38, 113, 117, 111, 116, 59])]
noncomputable def codes3 : List (Nat × List Nat) := [(38, [38, 97, 109, 112, 59]), (60, [38, 108, 116, 59]), (62, [38, 103, 116, 59]), (34, [38, 113, 117, 111, 116, 59]), (13, [38, 35, 49, 51, 59]), (10, [38, 35, 49, 48, 59]), (9, [38, 35, 48, 57, 59])]
noncomputable def codes4 : List (Nat × List Nat) := [(38, [38, 97, 109, 112, 59]), (60, [38, 108, 116, 59]), (34, [38, 113, 117, 111, 116, 59]), (9, [38, 35, 120, 57, 59]), (10, [38, 35, 120, 65, 59]), (13, [38, 35, 120, 68, 59])]
noncomputable def codes (n : Nat) : List (Nat × List Nat) := match n with
  | 0 => codes0
  | 1 => codes1
  | 2 => codes2
  | 3 => codes3
  | _ => codes4

theorem c_esc0 (hf : 1 ≤ cx.fuel) (l : List Nat) (hl : l.length ≤ 1000) (z : Ψ (.str (S (enc codes0 l)))) : JC prog w B cx (.ref 228) [.str (S l)] Ψ := by
  refine JC.fn (f := 228) ["text"] [] hf (by rfl) (by decide) rfl (fun vs h => ?_) (by kernel_rfl) (by decide) (by decide) (by decide) rfl (fun L => ?_)
  · obtain ⟨a, rfl⟩ := ar1 h
    exact rfl
  refine WSs.cons (WS.try ?_)
  have e0 : l = enc [] l := (enc_nil l).symm
  rw [e0]
  refine esc_step 38 [38, 97, 109, 112, 59] rfl rfl hl (by decide) (by decide) (by decide) (by decide) ⟨.inl rfl, rfl⟩ rfl (by with_unfolding_all rfl) _ rfl ?_
  refine esc_step 60 [38, 108, 116, 59] rfl rfl hl (by decide) (by decide) (by decide) (by decide) ⟨.inl rfl, rfl⟩ rfl (by with_unfolding_all rfl) _ rfl ?_
  refine esc_step 62 [38, 103, 116, 59] rfl rfl hl (by decide) (by decide) (by decide) (by decide) ⟨.inl rfl, rfl⟩ rfl (by with_unfolding_all rfl) _ rfl ?_
  refine WSs.cons (WS.ret (WE.name rfl ⟨_, rfl, ?_⟩))
  exact z

theorem c_esc1 (hf : 1 ≤ cx.fuel) (l : List Nat) (hl : l.length ≤ 1000) (z : Ψ (.str (S (enc codes1 l)))) : JC prog w B cx (.ref 249) [.str (S l)] Ψ := by
  refine JC.fn (f := 249) ["text"] [] hf (by rfl) (by decide) rfl (fun vs h => ?_) (by kernel_rfl) (by decide) (by decide) (by decide) rfl (fun L => ?_)
  · obtain ⟨a, rfl⟩ := ar1 h
    exact rfl
  refine WSs.cons (WS.try ?_)
  have e0 : l = enc [] l := (enc_nil l).symm
  rw [e0]
  refine esc_step 38 [38, 97, 109, 112, 59] rfl rfl hl (by decide) (by decide) (by decide) (by decide) ⟨.inl rfl, rfl⟩ rfl (by with_unfolding_all rfl) _ rfl ?_
  refine esc_step 60 [38, 108, 116, 59] rfl rfl hl (by decide) (by decide) (by decide) (by decide) ⟨.inl rfl, rfl⟩ rfl (by with_unfolding_all rfl) _ rfl ?_
  refine esc_step 62 [38, 103, 116, 59] rfl rfl hl (by decide) (by decide) (by decide) (by decide) ⟨.inl rfl, rfl⟩ rfl (by with_unfolding_all rfl) _ rfl ?_
  refine esc_step 13 [38, 35, 120, 68, 59] rfl rfl hl (by decide) (by decide) (by decide) (by decide) ⟨.inl rfl, rfl⟩ rfl (by with_unfolding_all rfl) _ rfl ?_
  refine WSs.cons (WS.ret (WE.name rfl ⟨_, rfl, ?_⟩))
  exact z

theorem c_esc2 (hf : 1 ≤ cx.fuel) (l : List Nat) (hl : l.length ≤ 1000) (z : Ψ (.str (S (enc codes2 l)))) : JC prog w B cx (.ref 242) [.str (S l)] Ψ := by
  refine JC.fn (f := 242) ["text"] [] hf (by rfl) (by decide) rfl (fun vs h => ?_) (by kernel_rfl) (by decide) (by decide) (by decide) rfl (fun L => ?_)
  · obtain ⟨a, rfl⟩ := ar1 h
    exact rfl
  refine WSs.cons (WS.try ?_)
  have e0 : l = enc [] l := (enc_nil l).symm
  rw [e0]
  refine esc_step 38 [38, 97, 109, 112, 59] rfl rfl hl (by decide) (by decide) (by decide) (by decide) ⟨.inl rfl, rfl⟩ rfl (by with_unfolding_all rfl) _ rfl ?_
  refine esc_step 62 [38, 103, 116, 59] rfl rfl hl (by decide) (by decide) (by decide) (by decide) ⟨.inl rfl, rfl⟩ rfl (by with_unfolding_all rfl) _ rfl ?_
  refine esc_step 34 [38, 113, 117, 111, 116, 59] rfl rfl hl (by decide) (by decide) (by decide) (by decide) ⟨.inl rfl, rfl⟩ rfl (by with_unfolding_all rfl) _ rfl ?_
  refine WSs.cons (WS.ret (WE.name rfl ⟨_, rfl, ?_⟩))
  exact z

theorem c_esc3 (hf : 1 ≤ cx.fuel) (l : List Nat) (hl : l.length ≤ 1000) (z : Ψ (.str (S (enc codes3 l)))) : JC prog w B cx (.ref 235) [.str (S l)] Ψ := by
  refine JC.fn (f := 235) ["text"] [] hf (by rfl) (by decide) rfl (fun vs h => ?_) (by kernel_rfl) (by decide) (by decide) (by decide) rfl (fun L => ?_)
  · obtain ⟨a, rfl⟩ := ar1 h
    exact rfl
  refine WSs.cons (WS.try ?_)
  have e0 : l = enc [] l := (enc_nil l).symm
  rw [e0]
  refine esc_step 38 [38, 97, 109, 112, 59] rfl rfl hl (by decide) (by decide) (by decide) (by decide) ⟨.inl rfl, rfl⟩ rfl (by with_unfolding_all rfl) _ rfl ?_
  refine esc_step 60 [38, 108, 116, 59] rfl rfl hl (by decide) (by decide) (by decide) (by decide) ⟨.inl rfl, rfl⟩ rfl (by with_unfolding_all rfl) _ rfl ?_
  refine esc_step 62 [38, 103, 116, 59] rfl rfl hl (by decide) (by decide) (by decide) (by decide) ⟨.inl rfl, rfl⟩ rfl (by with_unfolding_all rfl) _ rfl ?_
  refine esc_step 34 [38, 113, 117, 111, 116, 59] rfl rfl hl (by decide) (by decide) (by decide) (by decide) ⟨.inl rfl, rfl⟩ rfl (by with_unfolding_all rfl) _ rfl ?_
  refine esc_step 13 [38, 35, 49, 51, 59] rfl rfl hl (by decide) (by decide) (by decide) (by decide) ⟨.inl rfl, rfl⟩ rfl (by with_unfolding_all rfl) _ rfl ?_
  refine esc_step 10 [38, 35, 49, 48, 59] rfl rfl hl (by decide) (by decide) (by decide) (by decide) ⟨.inl rfl, rfl⟩ rfl (by with_unfolding_all rfl) _ rfl ?_
  refine esc_step 9 [38, 35, 48, 57, 59] rfl rfl hl (by decide) (by decide) (by decide) (by decide) ⟨.inl rfl, rfl⟩ rfl (by with_unfolding_all rfl) _ rfl ?_
  refine WSs.cons (WS.ret (WE.name rfl ⟨_, rfl, ?_⟩))
  exact z

theorem c_esc4 (hf : 1 ≤ cx.fuel) (l : List Nat) (hl : l.length ≤ 1000) (z : Ψ (.str (S (enc codes4 l)))) : JC prog w B cx (.ref 256) [.str (S l)] Ψ := by
  refine JC.fn (f := 256) ["text"] [] hf (by rfl) (by decide) rfl (fun vs h => ?_) (by kernel_rfl) (by decide) (by decide) (by decide) rfl (fun L => ?_)
  · obtain ⟨a, rfl⟩ := ar1 h
    exact rfl
  refine WSs.cons (WS.try ?_)
  have e0 : l = enc [] l := (enc_nil l).symm
  rw [e0]
  refine esc_step 38 [38, 97, 109, 112, 59] rfl rfl hl (by decide) (by decide) (by decide) (by decide) ⟨.inl rfl, rfl⟩ rfl (by with_unfolding_all rfl) _ rfl ?_
  refine esc_step 60 [38, 108, 116, 59] rfl rfl hl (by decide) (by decide) (by decide) (by decide) ⟨.inl rfl, rfl⟩ rfl (by with_unfolding_all rfl) _ rfl ?_
  refine esc_step 34 [38, 113, 117, 111, 116, 59] rfl rfl hl (by decide) (by decide) (by decide) (by decide) ⟨.inl rfl, rfl⟩ rfl (by with_unfolding_all rfl) _ rfl ?_
  refine esc_step 9 [38, 35, 120, 57, 59] rfl rfl hl (by decide) (by decide) (by decide) (by decide) ⟨.inl rfl, rfl⟩ rfl (by with_unfolding_all rfl) _ rfl ?_
  refine esc_step 10 [38, 35, 120, 65, 59] rfl rfl hl (by decide) (by decide) (by decide) (by decide) ⟨.inl rfl, rfl⟩ rfl (by with_unfolding_all rfl) _ rfl ?_
  refine esc_step 13 [38, 35, 120, 68, 59] rfl rfl hl (by decide) (by decide) (by decide) (by decide) ⟨.inl rfl, rfl⟩ rfl (by with_unfolding_all rfl) _ rfl ?_
  refine WSs.cons (WS.ret (WE.name rfl ⟨_, rfl, ?_⟩))
  exact z

theorem c_hand (hf : 3 ≤ cx.fuel) (n : Nat) (hn : n ≤ 4) (l : List Nat) (hl : l.length ≤ 1000) (z : Ψ (.str (S (enc (codes n) l)))) : JC prog w B cx (.ref 277) [.int n, .str (S l)] Ψ := by
  refine JC.fn (f := 277) ["number", "text"] [] (by omega) (by rfl) (by decide) rfl (fun vs h => ?_) (by kernel_rfl) (by decide) (by decide) (by decide) rfl (fun L => ?_)
  · obtain ⟨a, b, rfl⟩ := ar2 h
    exact rfl
  refine WSs.cons (WS.if ?_)
  walk_at "ev"
  by_cases h0 : n = 0
  · subst h0
    refine iteT (by decide) ?_
    refine WSs.cons (WS.ret (WE.callG (a := 228) (WA.of (WL.cons (WE.name rfl (WL.nil (c_esc0 (by show 1 ≤ cx.fuel - 1; omega) l hl ⟨_, rfl, z⟩))) fun _ => rfl)) rfl (by kernel_rfl) (by kernel_rfl)))
  refine iteF (by simp only [beq_iff_eq]; omega) ?_
  refine WSs.nil ?_
  refine WSs.cons (WS.if ?_)
  walk_at "ev"
  by_cases h1 : n = 1
  · subst h1
    refine iteT (by decide) ?_
    refine WSs.cons (WS.ret (WE.callG (a := 249) (WA.of (WL.cons (WE.name rfl (WL.nil (c_esc1 (by show 1 ≤ cx.fuel - 1; omega) l hl ⟨_, rfl, z⟩))) fun _ => rfl)) rfl (by kernel_rfl) (by kernel_rfl)))
  refine iteF (by simp only [beq_iff_eq]; omega) ?_
  refine WSs.nil ?_
  refine WSs.cons (WS.if ?_)
  walk_at "ev"
  by_cases h2 : n = 2
  · subst h2
    refine iteT (by decide) ?_
    refine WSs.cons (WS.ret (WE.callG (a := 242) (WA.of (WL.cons (WE.name rfl (WL.nil (c_esc2 (by show 1 ≤ cx.fuel - 1; omega) l hl ⟨_, rfl, z⟩))) fun _ => rfl)) rfl (by kernel_rfl) (by kernel_rfl)))
  refine iteF (by simp only [beq_iff_eq]; omega) ?_
  refine WSs.nil ?_
  refine WSs.cons (WS.if ?_)
  walk_at "ev"
  by_cases h3 : n = 3
  · subst h3
    refine iteT (by decide) ?_
    refine WSs.cons (WS.ret (WE.callG (a := 235) (WA.of (WL.cons (WE.name rfl (WL.nil (c_esc3 (by show 1 ≤ cx.fuel - 1; omega) l hl ⟨_, rfl, z⟩))) fun _ => rfl)) rfl (by kernel_rfl) (by kernel_rfl)))
  refine iteF (by simp only [beq_iff_eq]; omega) ?_
  refine WSs.nil ?_
  have h4 : n = 4 := by omega
  subst h4
  exact WSs.cons (WS.ret (WE.callG (a := 256) (WA.of (WL.cons (WE.name rfl (WL.nil (c_esc4 (by show 1 ≤ cx.fuel - 1; omega) l hl ⟨_, rfl, z⟩))) fun _ => rfl)) rfl (by kernel_rfl) (by kernel_rfl)))
end
end

section
section
variable {prog : Program} {w : World} {B : Base (K0.heap_1 w.params)} {cx : Cx} {Ψ : D → Prop}

theorem WE.dict' {K : Frag} {B : Base K} {ρ : List (Str × D)} {keys : List (Option Expr)} {values : List Expr} {pos : Pos} (x : WD prog w B cx pos ((keys.filterMap id).zip values) (fun ds => (ds.map (·.1)).Nodup ∧ Ψ (.dic ds)) ρ)
    (hshape : (evalEachOpt keys cx.env).zip ((evalEach values cx.env).map fun v => do let x ← v; standAt pos; pure x) = (((keys.filterMap id).zip values).map fun p => (eval p.1 cx.env, do let x ← eval p.2 cx.env; standAt pos; pure x)).map fun p => (some p.1, p.2) := by kernel_rfl)
    (h0 : (keys.filterMap id).zip values ≠ [] := by exact List.cons_ne_nil _ _) (hlen : ((keys.filterMap id).zip values).length ≤ 15 := by exact Nat.le_of_ble_eq_true rfl) :
    WE prog w B cx (.Dict keys values pos) Ψ ρ := WE.dict x hshape h0 hlen

noncomputable def keysOf (n : Nat) : List Nat := match n with
  | 0 => [38, 60, 62]
  | 1 => [38, 60, 62, 13]
  | 2 => [38, 62, 34]
  | 3 => [38, 60, 62, 34, 13, 10, 9]
  | _ => [38, 60, 34, 9, 10, 13]
theorem enc_other {n c : Nat} (hn : n ≤ 4) (h : c ∉ keysOf n) : encT (codes n) c = [c] := by
  have key : ∀ t : List (Nat × List Nat), c ∉ t.map (·.1) → encT t c = [c] := fun t => by
    induction t with
    | nil => intro _; rfl
    | cons e t ih =>
      intro h
      rw [List.map_cons, List.mem_cons, not_or] at h
      unfold encT
      rw [List.lookup_cons]
      have : (c == e.1) = false := by simpa using h.1
      rw [this]
      exact ih h.2
  refine key _ ?_
  match n, hn with
  | 0, _ => exact h
  | 1, _ => exact h
  | 2, _ => exact h
  | 3, _ => exact h
  | 4, _ => exact h
theorem key3_all : (List.range 5).all (fun n => (keysOf n).all fun c => decide (c ∈ [38, 60, 62, 34]) || decide ((c = 13 ∧ (n = 1 ∨ n = 3 ∨ n = 4)) ∨ (c = 10 ∧ (n = 3 ∨ n = 4)) ∨ (c = 9 ∧ (n = 3 ∨ n = 4)))) = true := by decide
theorem key3 {n c : Nat} (hn : n ≤ 4) (hk : c ∈ keysOf n) (h4 : ¬ c ∈ [38, 60, 62, 34]) : (c = 13 ∧ (n = 1 ∨ n = 3 ∨ n = 4)) ∨ (c = 10 ∧ (n = 3 ∨ n = 4)) ∨ (c = 9 ∧ (n = 3 ∨ n = 4)) := by
  have h := List.all_eq_true.mp (List.all_eq_true.mp key3_all n (List.mem_range.mpr (by omega))) c hk
  rcases Bool.or_eq_true_iff.mp h with h | h
  · exact absurd (of_decide_eq_true h) h4
  · exact of_decide_eq_true h
theorem c_spelled (hf : 3 ≤ cx.fuel) (n : Nat) (hn : n ≤ 4) (l : List Nat) (hl : l.length ≤ 1000) (z : Ψ (.str (S (enc (codes n) l)))) : JC prog w B cx (.ref 284) [.int n, .str (S l)] Ψ := by
  refine JC.fn (f := 284) ["number", "text"] [] (by omega) (by rfl) (by decide) rfl (fun vs h => ?_) (by kernel_rfl) (by decide) (by decide) (by decide) rfl (fun L => ?_)
  · obtain ⟨a, b, rfl⟩ := ar2 h
    exact rfl
  refine WSs.cons (WS.assign (WE.str ?_) ⟨.inl rfl, rfl⟩)
  refine WSs.for (WI.of (WE.name rfl (JI.str ?_)))
  refine ⟨List Nat × List Nat, fun ds s => ds = s.2.map signD ∧ l = s.1 ++ s.2, fun s => [("number", .int n), ("written", .str (S (enc (codes n) s.1)))], ([], l), ⟨S_signs l, rfl⟩, ⟨rfl, rfl, trivial⟩, ?_, ?_⟩
  · rintro d r ⟨done, cs⟩ ⟨e1, e2⟩
    cases cs with
    | nil => cases e1
    | cons c cs =>
      have e1 : d :: r = signD c :: cs.map signD := e1
      injection e1 with a b
      subst a b
      refine WT.name ⟨.inl rfl, rfl⟩ ?_
      have fin : ∀ out : List Nat, encT (codes n) c = out → ∀ ρ' : List (Str × D), ρ'.lookup ("number" : Str) = some (.int n) → ρ'.lookup ("written" : Str) = some (.str (S (enc (codes n) done) ++ S out)) → ∃ s' : List Nat × List Nat, (cs.map signD = s'.2.map signD ∧ l = s'.1 ++ s'.2) ∧ Has ρ' [("number", .int n), ("written", .str (S (enc (codes n) s'.1)))] := fun out ho ρ' h1 h2 => by
        refine ⟨(done ++ [c], cs), ⟨rfl, by rw [e2]; simp⟩, ⟨h1, ?_, trivial⟩⟩
        rw [S_append] at h2
        have : enc (codes n) (done ++ [c]) = enc (codes n) done ++ out := by rw [← ho, enc_append]; simp [enc]
        show ρ'.lookup ("written" : Str) = some (.str (S (enc (codes n) (done ++ [c]))))
        rw [this]; exact h2
      have room : ∀ out : List Nat, out.length ≤ 6 → (S (enc (codes n) done)).length + (S out).length ≤ sizeLine := fun out hlo => by
        rw [S_length, S_length, sizeLine_eq]
        have := enc_len (t := codes n) (by match n, hn with | 0, _ => decide | 1, _ => decide | 2, _ => decide | 3, _ => decide | 4, _ => decide) done
        have hll : l.length = done.length + (c :: cs).length := by rw [e2, List.length_append]
        omega
      refine WSs.cons (WS.if (WB.compare (WV.of ?_)))
      walk_at "ev"
      have hg : [D.str (Str.ofString "&<>"), D.str (Str.ofString "&<>\r"), D.str (Str.ofString "&>\""), D.str (Str.ofString "&<>\"\r\n\t"), D.str (Str.ofString "&<\"\t\n\r")][((n : Nat) : Int).toNat]? = some (.str (S (keysOf n))) := by
        rw [Int.toNat_natCast]
        match n, hn with
        | 0, _ => rfl
        | 1, _ => rfl
        | 2, _ => rfl
        | 3, _ => rfl
        | 4, _ => rfl
      refine JG.tup (by omega) hg (by omega) (J2.sNotIn ⟨_, rfl, ?_⟩)
      rw [in_S]
      by_cases hk : c ∈ keysOf n
      · refine iteF (by simpa using hk) ?_
        refine WSs.cons (WS.if (WB.compare (WV.of (WE.name rfl (WV.of (WE.str (J2.sIn ⟨_, rfl, ?_⟩)))))))
        rw [show Str.ofString "&<>\"" = S [38, 60, 62, 34] from rfl, in_S]
        by_cases h4 : c ∈ [38, 60, 62, 34]
        · refine iteT (decide_eq_true h4) ?_
          refine WSs.cons (WS.aug rfl ?_ rfl)
          refine WE.sub ?_
          refine WV.of ?_
          refine WE.dict' ?_
          refine WD.cons (WE.str ⟨_, rfl, WE.str (WD.cons (WE.str ⟨_, rfl, WE.str (WD.cons (WE.str ⟨_, rfl, WE.str (WD.cons (WE.str ⟨_, rfl, WE.str (WD.nil ⟨by decide, WV.of (WE.name rfl ?_)⟩)⟩))⟩))⟩))⟩)
          obtain ⟨out, ho, hlo, hlk⟩ : ∃ out : List Nat, encT (codes n) c = out ∧ out.length ≤ 6 ∧ List.lookup (S [c]) [(Str.ofString "&", D.str (Str.ofString "&amp;")), (Str.ofString "<", D.str (Str.ofString "&lt;")), (Str.ofString ">", D.str (Str.ofString "&gt;")), (Str.ofString "\"", D.str (Str.ofString "&quot;"))] = some (.str (S out)) := by
            simp only [List.mem_cons, List.not_mem_nil, or_false] at h4
            rcases h4 with rfl | rfl | rfl | rfl
            · exact ⟨[38, 97, 109, 112, 59], by match n, hn with | 0, _ => rfl | 1, _ => rfl | 2, _ => rfl | 3, _ => rfl | 4, _ => rfl, by decide, rfl⟩
            · exact ⟨[38, 108, 116, 59], by match n, hn, hk with | 0, _, _ => rfl | 1, _, _ => rfl | 2, _, h => exact absurd h (by decide) | 3, _, _ => rfl | 4, _, _ => rfl, by decide, rfl⟩
            · exact ⟨[38, 103, 116, 59], by match n, hn, hk with | 0, _, _ => rfl | 1, _, _ => rfl | 2, _, _ => rfl | 3, _, _ => rfl | 4, _, h => exact absurd h (by decide), by decide, rfl⟩
            · exact ⟨[38, 113, 117, 111, 116, 59], by match n, hn, hk with | 0, _, h => exact absurd h (by decide) | 1, _, h => exact absurd h (by decide) | 2, _, _ => rfl | 3, _, _ => rfl | 4, _, _ => rfl, by decide, rfl⟩
          exact JG.dic hlk (J2.sIadd (room out hlo) (WSs.nil (WSs.nil (WSs.nil (fin out ho _ rfl rfl)))))
        · refine iteF (by simpa using h4) ?_
          have hc3 : (c = 13 ∧ (n = 1 ∨ n = 3 ∨ n = 4)) ∨ (c = 10 ∧ (n = 3 ∨ n = 4)) ∨ (c = 9 ∧ (n = 3 ∨ n = 4)) := by
            exact key3 hn hk h4
          refine WSs.cons (WS.if ?_)
          walk_at "ev"
          by_cases h3 : n = 3
          · subst h3
            refine iteT (by decide) ?_
            refine WSs.cons (WS.aug rfl ?_ rfl)
            refine WE.sub ?_
            refine WV.of ?_
            refine WE.dict' ?_
            refine WD.cons (WE.str ⟨_, rfl, WE.str (WD.cons (WE.str ⟨_, rfl, WE.str (WD.cons (WE.str ⟨_, rfl, WE.str (WD.nil ⟨by decide, WV.of (WE.name rfl ?_)⟩)⟩))⟩))⟩)
            obtain ⟨out, ho, hlo, hlk⟩ : ∃ out : List Nat, encT (codes 3) c = out ∧ out.length ≤ 6 ∧ List.lookup (S [c]) [(Str.ofString "\t", D.str (Str.ofString "&#09;")), (Str.ofString "\n", D.str (Str.ofString "&#10;")), (Str.ofString "\r", D.str (Str.ofString "&#13;"))] = some (.str (S out)) := by
              rcases hc3 with ⟨rfl, _⟩ | ⟨rfl, _⟩ | ⟨rfl, _⟩
              · exact ⟨[38, 35, 49, 51, 59], rfl, by decide, rfl⟩
              · exact ⟨[38, 35, 49, 48, 59], rfl, by decide, rfl⟩
              · exact ⟨[38, 35, 48, 57, 59], rfl, by decide, rfl⟩
            exact JG.dic hlk (J2.sIadd (room out hlo) (WSs.nil (WSs.nil (WSs.nil (WSs.nil (fin out ho _ rfl rfl))))))
          · refine iteF (by simp only [beq_iff_eq]; omega) ?_
            refine WSs.cons (WS.aug rfl ?_ rfl)
            refine WE.sub ?_
            refine WV.of ?_
            refine WE.dict' ?_
            refine WD.cons (WE.str ⟨_, rfl, WE.str (WD.cons (WE.str ⟨_, rfl, WE.str (WD.cons (WE.str ⟨_, rfl, WE.str (WD.nil ⟨by decide, WV.of (WE.name rfl ?_)⟩)⟩))⟩))⟩)
            obtain ⟨out, ho, hlo, hlk⟩ : ∃ out : List Nat, encT (codes n) c = out ∧ out.length ≤ 6 ∧ List.lookup (S [c]) [(Str.ofString "\t", D.str (Str.ofString "&#x9;")), (Str.ofString "\n", D.str (Str.ofString "&#xA;")), (Str.ofString "\r", D.str (Str.ofString "&#xD;"))] = some (.str (S out)) := by
              rcases hc3 with ⟨rfl, hh⟩ | ⟨rfl, hh⟩ | ⟨rfl, hh⟩
              · exact ⟨[38, 35, 120, 68, 59], by rcases hh with rfl | rfl | rfl <;> first | rfl | exact absurd rfl h3, by decide, rfl⟩
              · exact ⟨[38, 35, 120, 65, 59], by rcases hh with rfl | rfl <;> first | rfl | exact absurd rfl h3, by decide, rfl⟩
              · exact ⟨[38, 35, 120, 57, 59], by rcases hh with rfl | rfl <;> first | rfl | exact absurd rfl h3, by decide, rfl⟩
            exact JG.dic hlk (J2.sIadd (room out hlo) (WSs.nil (WSs.nil (WSs.nil (WSs.nil (fin out ho _ rfl rfl))))))
      · refine iteT (by simpa using hk) ?_
        refine WSs.cons (WS.aug rfl ?_ rfl)
        walk_at "ev"
        · exact room [c] (Nat.le_of_ble_eq_true rfl)
        · exact WSs.nil (WSs.nil (fin [c] (enc_other hn hk) _ rfl rfl))
  · rintro ⟨done, cs⟩ ⟨e1, e2⟩
    have : cs = [] := by simpa using e1.symm
    subst this
    refine WSs.cons (WS.ret ?_)
    walk_at "ev"
    have : l = done := by simpa using e2
    subst this
    exact z
end
end

section
section
variable {prog : Program} {w : World} {B : Base (K0.heap_1 w.params)} {cx : Cx} {Ψ : D → Prop}

theorem get_ints {is : List Int} {i : Nat} (h : i < is.length) : (is.map D.int)[i]? = some (.int (is.getD i 0)) := by
  rw [List.getElem?_map, List.getElem?_eq_getElem h]
  simp [List.getD, List.getElem?_eq_getElem h]

theorem c_cells (hf : 1 ≤ cx.fuel) (is : List Int) (hl : is.length ≤ 1000000) (z : ∀ cells : List Int, cells.length = 5 → Ψ (.lst (cells.map .int))) : JC0 prog w B cx (.ref 263) [.lst (is.map .int)] Ψ := by
  refine JC0.fn (f := 263) ["script"] ["cells"] (by omega) (by rfl) (by decide) rfl (fun vs h => ?_) (by kernel_rfl) (by decide) (by decide) (by decide) rfl (fun L => ?_)
  · obtain ⟨a, rfl⟩ := ar1 h
    exact rfl
  refine WSs.cons (WS.assignNew (WN.list ?_) rfl rfl (fun _ e => nomatch e))
  walk_at "ev"
  refine WSs.for (WI.range1 (WE.callB (id := "min") (WA.of ?_) rfl (by kernel_rfl) (by kernel_rfl)) rfl (by kernel_rfl))
  walk_at "ev"
  · rw [List.length_map]; omega
  rw [List.length_map]
  have hmin : (if (60 : Int) < (is.length : Int) then (60 : Int) else is.length) = ((min is.length 60 : Nat) : Int) := by split <;> omega
  refine JC.min ⟨_, rfl, ?_⟩
  rw [hmin]
  refine ⟨by omega, by omega, ?_⟩
  have hrange : rangeD 0 ((min is.length 60 : Nat) : Int) = (List.range (min is.length 60)).map fun (i : Nat) => D.int (0 + (i : Int)) := by
    unfold rangeD
    have : (((min is.length 60 : Nat) : Int) - 0).toNat = min is.length 60 := by omega
    rw [this]
  refine ⟨List Nat × List Int, fun ds s => ds = s.1.map (fun (i : Nat) => D.int (0 + (i : Int))) ∧ (∀ i ∈ s.1, i < is.length ∧ i < 60) ∧ s.2.length = 5, fun s => [("cells", .lst (s.2.map .int)), ("script", .lst (is.map .int))], (List.range (min is.length 60), [1958, 649, 1602, 3116, 266]), ⟨hrange, fun i hi => ?_, rfl⟩, ⟨rfl, rfl, trivial⟩, ?_, ?_⟩
  · have := List.mem_range.mp hi; omega
  · rintro d r ⟨ks, cells⟩ ⟨e1, e2, e3⟩
    cases ks with
    | nil => cases e1
    | cons k ks =>
      have e1 : d :: r = D.int (0 + (k : Int)) :: ks.map (fun (i : Nat) => D.int (0 + (i : Int))) := e1
      injection e1 with a b
      subst a b
      obtain ⟨hk, hk60⟩ := e2 k (List.mem_cons_self ..)
      have e3 : cells.length = 5 := e3
      refine WT.name ⟨.inl rfl, rfl⟩ ?_
      refine WSs.cons (WS.augSub rfl ?_ ?_)
      · rw [List.length_map]; show cells.length ≤ _; omega
      walk_at "ev"
      · decide
      have hm : (0 + (k : Int)).fmod 5 = ((k % 5 : Nat) : Int) := by
        rw [Int.fmod_eq_emod_of_nonneg _ (by decide)]; omega
      have hk5 : k % 5 < cells.length := by omega
      refine ⟨k % 5, _, by rw [hm], get_ints hk5, ?_⟩
      have h0 : (0 + (k : Int)).toNat = k := by omega
      walk_at "ev"
      refine JG.lst (d := .int (is.getD k 0)) (by omega) (by rw [h0]; exact get_ints hk) (by omega) ?_
      walk_at "ev"
      refine J2.pow (by decide) (by decide) (by decide) ?_
      walk_at "ev"
      · decide
      refine WSs.nil ⟨(ks, cells.set (k % 5) (cells.getD (k % 5) 0 + (is.getD k 0).fmod (10 ^ (6 : Int).toNat))), ⟨rfl, fun i hi => e2 i (List.mem_cons_of_mem _ hi), by rw [List.length_set]; exact e3⟩, ⟨?_, rfl, trivial⟩⟩
      show some (D.lst ((cells.map D.int).set (k % 5) (D.int (cells.getD (k % 5) 0 + (is.getD k 0).fmod (10 ^ (6 : Int).toNat))))) = some (D.lst ((cells.set (k % 5) _).map D.int))
      rw [List.map_set]
  · rintro ⟨ks, cells⟩ ⟨_, _, e3⟩
    exact WSs.cons (WS.retMut rfl ⟨_, rfl, z cells e3⟩)

/-- a tree of paths, as it grew -/
inductive Tree (blanks : List Nat) (first : List Nat) : List (List Nat) → Prop
  | root : Tree blanks first [first]
  | grow {ps : List (List Nat)} {p e : List Nat} : Tree blanks first ps → p ∈ ps → e = [9] ∨ e = blanks → p ++ e ∉ ps → Tree blanks first (ps ++ [p ++ e])

theorem Tree.len {blanks first : List Nat} (hb : blanks.length ≤ 3) : ∀ {ps : List (List Nat)}, Tree blanks first ps → ∀ p ∈ ps, p.length ≤ first.length + 3 * (ps.length - 1)
  | _, .root, p, hp => by rw [List.mem_singleton.mp hp]; exact Nat.le_add_right _ _
  | _, .grow (ps := ps) (p := q) t hq he _, p, hp => by
    have hpos : 1 ≤ ps.length := by cases ps with | nil => cases hq | cons => simp
    rw [List.length_append, List.length_singleton]
    rcases List.mem_append.mp hp with hp | hp
    · have := Tree.len hb t p hp; omega
    · rw [List.mem_singleton.mp hp, List.length_append]
      have := Tree.len hb t q hq
      rcases he with rfl | rfl
      · have : [9].length = 1 := rfl
        omega
      · omega

theorem Tree.root_mem {blanks first : List Nat} : ∀ {ps : List (List Nat)}, Tree blanks first ps → first ∈ ps
  | _, .root => List.mem_singleton.mpr rfl
  | _, .grow t _ _ _ => List.mem_append_left _ t.root_mem

noncomputable def pathsD (ps : List (List Nat)) : D := .lst ((ps.map S).map .str)
theorem contains_S (ps : List (List Nat)) (p : List Nat) : (ps.map S).contains (S p) = decide (p ∈ ps) := by
  induction ps with
  | nil => rfl
  | cons q ps ih =>
    rw [List.map_cons, List.contains_cons, ih, S_beq]
    by_cases h : p = q
    · subst h; simp
    · simp [h]

/-- a path that is there, and its way out -/
theorem c_paths (hf : 1 ≤ cx.fuel) (cells : List Int) (hc : cells.length = 5) (first blanks : List Nat) (hfl : first.length ≤ 2) (hbl : 1 ≤ blanks.length ∧ blanks.length ≤ 3) (z : ∀ ps, Tree blanks first ps → ps.length = 6 → Ψ (pathsD ps)) :
    JC prog w B cx (.ref 270) [.lst (cells.map .int), .str (S first), .str (S blanks)] Ψ := by
  refine JC.fn (f := 270) ["cells", "first", "blanks"] ["paths"] (by omega) (by rfl) (by decide) rfl (fun vs h => ?_) (by kernel_rfl) (by decide) (by decide) (by decide) rfl (fun L => ?_)
  · obtain ⟨a, b, c, rfl⟩ := ar3 h
    exact rfl
  refine WSs.cons (WS.assignNew (WN.list ?_) rfl rfl (fun _ e => nomatch e))
  walk_at "ev"
  refine WSs.for (WI.of (WE.name rfl (JI.list ?_)))
  refine ⟨List Int × List (List Nat), fun ds s => ds = s.1.map .int ∧ Tree blanks first s.2 ∧ s.1.length + s.2.length = 6, fun s => [("paths", pathsD s.2), ("first", .str (S first)), ("blanks", .str (S blanks))], (cells, [first]), ⟨rfl, .root, by rw [hc]; rfl⟩, ⟨rfl, rfl, rfl, trivial⟩, ?_, ?_⟩
  · rintro d r ⟨cs, ps⟩ ⟨e1, e2, e3⟩
    cases cs with
    | nil => cases e1
    | cons c cs =>
      have e1 : d :: r = D.int c :: cs.map .int := e1
      injection e1 with a b
      subst a b
      have e3 : (c :: cs).length + ps.length = 6 := e3
      have e2 : Tree blanks first ps := e2
      rw [List.length_cons] at e3
      refine WT.name ⟨.inl rfl, rfl⟩ ?_
      refine WSs.cons (WS.assign (WE.name rfl ?_) ⟨.inl rfl, rfl⟩)
      -- the way out: path is in paths, each turn longer
      refine WSs.while (σ := List Nat × Int) (fun n s => (s.1 ∈ ps ∨ ∃ p ∈ ps, ∃ e, (e = [9] ∨ e = blanks) ∧ s.1 = p ++ e) ∧ s.1.length ≤ 100 ∧ s.1.length + n = 101) (fun s => [("path", .str (S s.1)), ("cell", .int s.2), ("paths", pathsD ps), ("first", .str (S first)), ("blanks", .str (S blanks))]) (101 - first.length) (first, c) ⟨.inl e2.root_mem, by show first.length ≤ 100; omega, by show first.length + _ = 101; omega⟩ ⟨rfl, rfl, rfl, rfl, rfl, trivial⟩ ?_
      rintro n ⟨p, c⟩ ⟨h1, h2, h3⟩
      refine WB.compare (WV.of (WE.name rfl (WV.name rfl (J2.inL (ss := ps.map S) ⟨_, rfl, ?_⟩))))
      rw [contains_S]
      by_cases hp : p ∈ ps
      · refine iteT (decide_eq_true hp) ?_
        have hlen := Tree.len hbl.2 e2 p hp
        have hroom : ∀ e : List Nat, e.length ≤ 3 → (S p).length + (S e).length ≤ sizeLine := fun e he => by rw [S_length, S_length, sizeLine_eq]; omega
        have fin : ∀ e : List Nat, (e = [9] ∨ e = blanks) → ∀ ρ' : List (Str × D), Has ρ' [("path", .str (S p ++ S e)), ("cell", .int (c.fdiv 2)), ("paths", pathsD ps), ("first", .str (S first)), ("blanks", .str (S blanks))] →
            ∃ m, ∃ s' : List Nat × Int, m < n ∧ ((s'.1 ∈ ps ∨ ∃ p ∈ ps, ∃ e, (e = [9] ∨ e = blanks) ∧ s'.1 = p ++ e) ∧ s'.1.length ≤ 100 ∧ s'.1.length + m = 101) ∧ Has ρ' [("path", .str (S s'.1)), ("cell", .int s'.2), ("paths", pathsD ps), ("first", .str (S first)), ("blanks", .str (S blanks))] := fun e he ρ' hh => by
          rw [S_append] at hh
          have hel : 1 ≤ e.length ∧ e.length ≤ 3 := by
            rcases he with rfl | rfl
            · exact ⟨Nat.le_of_ble_eq_true rfl, Nat.le_of_ble_eq_true rfl⟩
            · exact hbl
          have h3 : p.length + n = 101 := h3
          have : (p ++ e).length = p.length + e.length := List.length_append
          exact ⟨101 - (p ++ e).length, (p ++ e, c.fdiv 2), by omega, ⟨.inr ⟨p, hp, e, he, rfl⟩, by show (p ++ e).length ≤ 100; omega, by show (p ++ e).length + _ = 101; omega⟩, hh⟩
        refine WSs.cons (WS.aug rfl (WE.ifExp (WB.other (WV.of ?_))) rfl)
        walk_at "ev"
        · decide
        refine JT.int ?_
        by_cases hc2 : (c.fmod 2 != 0) = true
        · refine iteT hc2 (WE.str (J2.sIadd (hroom [9] (Nat.le_of_ble_eq_true rfl)) ?_))
          refine WSs.cons (WS.aug rfl (WE.int (J2.ifloordiv (by decide) (by decide) ?_)) rfl)
          exact WSs.nil (fin [9] (.inl rfl) _ ⟨rfl, rfl, rfl, rfl, rfl, trivial⟩)
        · refine iteF hc2 (WE.name rfl (J2.sIadd (hroom blanks hbl.2) ?_))
          refine WSs.cons (WS.aug rfl (WE.int (J2.ifloordiv (by decide) (by decide) ?_)) rfl)
          exact WSs.nil (fin blanks (.inr rfl) _ ⟨rfl, rfl, rfl, rfl, rfl, trivial⟩)
      · refine iteF (by simpa using hp) ?_
        obtain ⟨q, hq, e, he, rfl⟩ : ∃ q ∈ ps, ∃ e, (e = [9] ∨ e = blanks) ∧ p = q ++ e := by
          rcases h1 with h | h
          · exact absurd h hp
          · exact h
        refine WSs.cons (WS.append rfl ?_ (WE.name rfl ?_))
        · rw [List.length_map, List.length_map, sizeLine_eq]; omega
        refine WSs.nil ⟨(cs, ps ++ [q ++ e]), ⟨rfl, .grow e2 hq he hp, ?_⟩, ⟨?_, rfl, rfl, trivial⟩⟩
        · show cs.length + (ps ++ [q ++ e]).length = 6
          rw [List.length_append, List.length_singleton]; omega
        · show some (D.lst ((ps.map S).map D.str ++ [D.str (S (q ++ e))])) = some (pathsD (ps ++ [q ++ e]))
          unfold pathsD
          rw [List.map_append, List.map_append]; rfl
  · rintro ⟨cs, ps⟩ ⟨e1, e2, e3⟩
    have : cs = [] := by simpa using e1.symm
    subst this
    refine WSs.cons (WS.retMut rfl ⟨_, rfl, z ps e2 ?_⟩)
    have e3 : ([] : List Int).length + ps.length = 6 := e3
    simpa using e3
end
end

section
section
variable {prog : Program} {w : World} {B : Base (K0.heap_1 w.params)} {cx : Cx} {Ψ : D → Prop}

noncomputable abbrev Tab := List (List Nat × Int)
noncomputable def tabD (l : Tab) : List (Str × D) := l.map fun e => (S e.1, .int e.2)
theorem putD_new {k : Str} {d : D} {ds : List (Str × D)} (h : k ∉ ds.map (·.1)) : putD k d ds = ds ++ [(k, d)] := by
  unfold putD
  rw [if_neg]
  intro q
  obtain ⟨e, he, z⟩ := List.any_eq_true.mp q
  exact h (List.mem_map.mpr ⟨e, he, of_decide_eq_true z⟩)
theorem tab_keys {l : Tab} {k : List Nat} (h : k ∉ l.map (·.1)) : S k ∉ (tabD l).map (·.1) := fun q => by
  obtain ⟨e, he, z⟩ := List.mem_map.mp q
  obtain ⟨e', he', rfl⟩ := List.mem_map.mp he
  exact h (List.mem_map.mpr ⟨e', he', S_inj.mp z⟩)
theorem tab_put {l : Tab} {k : List Nat} {i : Int} (h : k ∉ l.map (·.1)) : putD (S k) (.int i) (tabD l) = tabD (l ++ [(k, i)]) := by
  rw [putD_new (tab_keys h)]; unfold tabD; rw [List.map_append]; rfl
theorem lookup_none {ds : List (Str × D)} {k : Str} (h : k ∉ ds.map (·.1)) : ds.lookup k = none := by
  induction ds with
  | nil => rfl
  | cons e ds ih =>
    rw [List.map_cons, List.mem_cons, not_or] at h
    rw [List.lookup_cons]
    have : (k == e.1) = false := by simpa using h.1
    rw [this]; exact ih h.2
noncomputable abbrev itemD (e : List Nat × Int) : D := .tup [.str (S e.1), .int e.2]
theorem tab_items (l : Tab) : ((tabD l).map fun e => D.tup [.str e.1, e.2]) = l.map itemD := by unfold tabD; rw [List.map_map]; rfl

theorem c_callers (hf : 1 ≤ cx.fuel) (ts ss : Tab) (hn : ((ts ++ ss).map (·.1)).Nodup) (hl : (ts ++ ss).length ≤ 1000) (z : Ψ (.dic (tabD (ts ++ ss)))) : JC prog w B cx (.ref 129) [.dic (tabD ts), .dic (tabD ss)] Ψ := by
  refine JC.fn (f := 129) ["target", "source"] ["new_callers"] (by omega) (by rfl) (by decide) rfl (fun vs h => ?_) (by kernel_rfl) (by decide) (by decide) (by decide) rfl (fun L => ?_)
  · obtain ⟨a, b, rfl⟩ := ar2 h
    exact rfl
  rw [List.length_append] at hl
  have names : ∀ p q : Pos, ∀ n ∈ [(("func" : Str), p), (("caller" : Str), q)], n.1 = "func" ∨ n.1 = "caller" := fun p q n hn => by
    rcases List.mem_cons.mp hn with rfl | hn
    · exact .inl rfl
    · rw [List.mem_singleton.mp hn]; exact .inr rfl
  refine WSs.cons (WS.assignNew (WN.dict ?_) rfl rfl (fun _ e => nomatch e))
  refine WSs.for (WI.items (WE.name rfl ⟨tabD ts, rfl, ?_⟩))
  rw [tab_items]
  refine ⟨Tab × Tab, fun ds s => ds = s.2.map itemD ∧ ts = s.1 ++ s.2, fun s => [("new_callers", .dic (tabD s.1)), ("target", .dic (tabD ts)), ("source", .dic (tabD ss))], ([], ts), ⟨rfl, rfl⟩, ⟨rfl, rfl, rfl, trivial⟩, ?_, ?_⟩
  · rintro d r ⟨done, rest⟩ ⟨e1, e2⟩
    cases rest with
    | nil => cases e1
    | cons e rest =>
      have e1 : d :: r = itemD e :: rest.map itemD := e1
      injection e1 with a b
      subst a b
      have e2 : ts = done ++ e :: rest := e2
      refine WT.tuple (names := [("func", _), ("caller", _)]) rfl (fun n hn => by rcases names _ _ n hn with h | h <;> (rw [h]; exact ⟨.inl rfl, rfl⟩)) rfl ?_
      refine WSs.cons (WS.setDict (WE.name rfl (WE.name rfl ⟨_, rfl, ?_⟩)) rfl ?_)
      · refine WSs.nil ⟨(done ++ [e], rest), ⟨rfl, by rw [e2]; simp⟩, ⟨?_, rfl, rfl, trivial⟩⟩
        have hk : e.1 ∉ done.map (·.1) := fun q => by
          rw [e2, List.append_assoc, List.map_append] at hn
          exact (List.nodup_append.mp hn).2.2 _ q _ (by simp) rfl
        show some (D.dic (putD (S e.1) (.int e.2) (tabD done))) = some (.dic (tabD (done ++ [e])))
        rw [tab_put hk]
      · unfold tabD; rw [List.length_map]
        have : ts.length = done.length + (e :: rest).length := by rw [e2, List.length_append]
        show done.length ≤ _
        omega
  · rintro ⟨done, rest⟩ ⟨e1, e2⟩
    have : rest = [] := by simpa using e1.symm
    subst this
    have e2 : ts = done := by simpa using e2
    subst e2
    refine WSs.for (WI.items (WE.name rfl ⟨tabD ss, rfl, ?_⟩))
    rw [tab_items]
    refine ⟨Tab × Tab, fun ds s => ds = s.2.map itemD ∧ ss = s.1 ++ s.2, fun s => [("new_callers", .dic (tabD (ts ++ s.1))), ("source", .dic (tabD ss))], ([], ss), ⟨rfl, rfl⟩, ⟨by show some (D.dic (tabD ts)) = some (D.dic (tabD (ts ++ []))); rw [List.append_nil], rfl, trivial⟩, ?_, ?_⟩
    · rintro d r ⟨done, rest⟩ ⟨e1, e2⟩
      cases rest with
      | nil => cases e1
      | cons e rest =>
        have e1 : d :: r = itemD e :: rest.map itemD := e1
        injection e1 with a b
        subst a b
        have e2 : ss = done ++ e :: rest := e2
        have hk : e.1 ∉ (ts ++ done).map (·.1) := fun q => by
          rw [e2, ← List.append_assoc, List.map_append] at hn
          exact (List.nodup_append.mp hn).2.2 _ q _ (by simp) rfl
        refine WT.tuple (names := [("func", _), ("caller", _)]) rfl (fun n hn => by rcases names _ _ n hn with h | h <;> (rw [h]; exact ⟨.inl rfl, rfl⟩)) rfl ?_
        refine WSs.cons (WS.if (WB.compare (WV.of (WE.name rfl (WV.name rfl (J2.inD ⟨_, rfl, ?_⟩))))))
        rw [show List.lookup (S e.1) (tabD (ts ++ done)) = none from lookup_none (tab_keys hk)]
        refine iteF (by decide) ?_
        refine WSs.cons (WS.setDict (WE.name rfl (WE.name rfl ⟨_, rfl, ?_⟩)) rfl ?_)
        · refine WSs.nil (WSs.nil ⟨(done ++ [e], rest), ⟨rfl, by rw [e2]; simp⟩, ⟨?_, rfl, trivial⟩⟩)
          show some (D.dic (putD (S e.1) (.int e.2) (tabD (ts ++ done)))) = some (.dic (tabD (ts ++ (done ++ [e]))))
          rw [tab_put hk, List.append_assoc]
        · unfold tabD; rw [List.length_map]
          have : ss.length = done.length + (e :: rest).length := by rw [e2, List.length_append]
          show (ts ++ done).length ≤ _
          rw [List.length_append]
          omega
    · rintro ⟨done, rest⟩ ⟨e1, e2⟩
      have : rest = [] := by simpa using e1.symm
      subst this
      have e2 : ss = done := by simpa using e2
      subst e2
      exact WSs.cons (WS.retMut rfl ⟨_, rfl, z⟩)

noncomputable def entD (a b c d : Int) (t : Tab) : D := .tup [.int a, .int b, .int c, .int d, .dic (tabD t)]
theorem c_stats (hf : 3 ≤ cx.fuel) (a b c d a' b' c' d' : Int) (ts ss : Tab) (hn : ((ts ++ ss).map (·.1)).Nodup) (hl : (ts ++ ss).length ≤ 1000) (z : Ψ (entD (a' + a) (b' + b) (c' + c) (d' + d) (ts ++ ss))) :
    JC prog w B cx (.ref 122) [entD a b c d ts, entD a' b' c' d' ss] Ψ := by
  refine JC.fn (f := 122) ["target", "source"] [] (by omega) (by rfl) (by decide) rfl (fun vs h => ?_) (by kernel_rfl) (by decide) (by decide) (by decide) rfl (fun L => ?_)
  · obtain ⟨a, b, rfl⟩ := ar2 h
    exact rfl
  refine WSs.cons (WS.assignTup (WE.name rfl ?_))
  refine WT.tuple (names := [("cc", _), ("nc", _), ("tt", _), ("ct", _), ("callers", _)]) rfl (fun n hn => ?_) rfl ?_
  · simp only [List.mem_cons, List.not_mem_nil, or_false] at hn
    rcases hn with rfl | rfl | rfl | rfl | rfl <;> exact ⟨.inl rfl, rfl⟩
  refine WSs.cons (WS.assignTup (WE.name rfl ?_))
  refine WT.tuple (names := [("t_cc", _), ("t_nc", _), ("t_tt", _), ("t_ct", _), ("t_callers", _)]) rfl (fun n hn => ?_) rfl ?_
  · simp only [List.mem_cons, List.not_mem_nil, or_false] at hn
    rcases hn with rfl | rfl | rfl | rfl | rfl <;> exact ⟨.inl rfl, rfl⟩
  refine WSs.cons (WS.ret ?_)
  walk_at "ev"
  refine WE.callG (a := 129) (WA.of (WL.cons (WE.name rfl (WL.cons (WE.name rfl (WL.nil (c_callers (by show 1 ≤ cx.fuel - 1; omega) ts ss hn hl ?_))) fun _ => rfl)) fun _ => rfl)) rfl (by kernel_rfl) (by kernel_rfl)
  walk_at "ev"
  exact z

theorem c_count (hf : 1 ≤ cx.fuel) (ts : Tab) (z : Ψ (.int (ts.foldl (fun n e => n + e.2) 0))) : JC prog w B cx (.ref 136) [.dic (tabD ts)] Ψ := by
  refine JC.fn (f := 136) ["callers"] [] (by omega) (by rfl) (by decide) rfl (fun vs h => ?_) (by kernel_rfl) (by decide) (by decide) (by decide) rfl (fun L => ?_)
  · obtain ⟨a, rfl⟩ := ar1 h
    exact rfl
  refine WSs.cons (WS.assign (WE.int ?_) ⟨.inl rfl, rfl⟩)
  refine WSs.for (WI.values (WE.name rfl ⟨tabD ts, rfl, ?_⟩))
  have hv : (tabD ts).map (·.2) = ts.map fun e => D.int e.2 := by unfold tabD; rw [List.map_map]; rfl
  rw [hv]
  refine ⟨Tab × Int, fun ds s => ds = (s.1.map fun e => D.int e.2) ∧ s.1.foldl (fun n e => n + e.2) s.2 = ts.foldl (fun n e => n + e.2) 0, fun s => [("nc", .int s.2)], (ts, 0), ⟨rfl, rfl⟩, ⟨rfl, trivial⟩, ?_, ?_⟩
  · rintro d r ⟨rest, n⟩ ⟨e1, e2⟩
    cases rest with
    | nil => cases e1
    | cons e rest =>
      have e1 : d :: r = D.int e.2 :: rest.map fun e => D.int e.2 := e1
      injection e1 with a b
      subst a b
      refine WT.name ⟨.inl rfl, rfl⟩ ?_
      refine WSs.cons (WS.aug rfl (WE.name rfl (J2.iadd ?_)) rfl)
      exact WSs.nil ⟨(rest, n + e.2), ⟨rfl, e2⟩, ⟨rfl, trivial⟩⟩
  · rintro ⟨rest, n⟩ ⟨e1, e2⟩
    have : rest = [] := by simpa using e1.symm
    subst this
    have e2 : n = _ := e2
    refine WSs.cons (WS.ret (WE.name rfl ⟨_, rfl, ?_⟩))
    rw [e2]; exact z
end
end

section
section
variable {prog : Program} {w : World} {B : Base (K0.heap_1 w.params)} {cx : Cx} {Ψ : D → Prop}

structure Row where
  p : List Nat
  wt : Int
  wr : List Nat
noncomputable abbrev rowsP (rows : List Row) : D := .lst (rows.map fun r => .str (S r.p))
noncomputable abbrev rowsL (rows : List Row) : D := .lst (rows.map fun r => leadD r.p)
noncomputable abbrev rowsW (rows : List Row) : D := .lst (rows.map fun r => .int r.wt)
noncomputable abbrev rowsR (rows : List Row) : D := .lst (rows.map fun r => .str (S r.wr))
theorem get_at {α β : Type} {rows done rest : List α} {r : α} (f : α → β) (h : rows = done ++ r :: rest) : (rows.map f)[done.length]? = some (f r) := by
  subst h; simp
theorem get_atI {α β : Type} {rows done rest : List α} {r : α} (f : α → β) (h : rows = done ++ r :: rest) : (rows.map f)[(0 + (done.length : Int)).toNat]? = some (f r) := by
  have : (0 + (done.length : Int)).toNat = done.length := by omega
  rw [this]; exact get_at f h
theorem range_ix (n : Nat) : rangeD 0 (n : Int) = (List.range' 0 n).map fun (i : Nat) => D.int (0 + (i : Int)) := by
  unfold rangeD
  have : ((n : Int) - 0).toNat = n := by omega
  rw [this, List.range_eq_range']
/-- what is left of the places -/
noncomputable def ixD {α : Type} (done rest : List α) : List D := (List.range' done.length rest.length).map fun (i : Nat) => D.int (0 + (i : Int))
theorem ix_cons {α : Type} (done rest : List α) (r : α) : ixD done (r :: rest) = D.int (0 + (done.length : Int)) :: ixD (done ++ [r]) rest := by
  unfold ixD
  rw [List.length_cons, List.range'_succ, List.map_cons, List.length_append]; rfl

noncomputable def entOf (ts : Nat) (r : Row) : D := entD (ws r.p).nt (ws r.p).n r.wt (indentI (ws r.p) ts) [(r.wr, r.wt)]

theorem c_entries (hf : 5 ≤ cx.fuel) (rows : List Row) (ts : Nat) (h1 : 1 ≤ ts) (h2 : ts ≤ 1000) (hfit : ∀ r ∈ rows, (ws r.p).fit) (hn : (rows.map (·.p)).Nodup) (hl : rows.length ≤ 100) (z : Ψ (.dic (rows.map fun r => (S r.p, entOf ts r)))) :
    JC prog w B cx (.ref 303) [rowsP rows, rowsL rows, rowsW rows, .int ts, rowsR rows] Ψ := by
  refine JC.fn (f := 303) ["paths", "leads", "weights", "size", "written"] ["entries"] (by omega) (by rfl) (by decide) rfl (fun vs h => ?_) (by kernel_rfl) (by decide) (by decide) (by decide) rfl (fun L => ?_)
  · obtain ⟨a, b, c, d, e, rfl⟩ := ar5 h
    exact rfl
  refine WSs.cons (WS.assignNew (WN.dict ?_) rfl rfl (fun _ e => nomatch e))
  refine WSs.for (WI.range1 ?_ rfl (by kernel_rfl))
  walk_at "ev"
  · rw [List.length_map]; omega
  rw [List.length_map]
  refine ⟨by omega, by omega, ?_⟩
  rw [range_ix]
  refine ⟨List Row × List Row, fun ds s => ds = ixD s.1 s.2 ∧ rows = s.1 ++ s.2, fun s => [("entries", .dic (s.1.map fun r => (S r.p, entOf ts r))), ("paths", rowsP rows), ("leads", rowsL rows), ("weights", rowsW rows), ("size", .int ts), ("written", rowsR rows)], ([], rows), ⟨rfl, rfl⟩, ⟨rfl, rfl, rfl, rfl, rfl, rfl, trivial⟩, ?_, ?_⟩
  · rintro d r ⟨done, rest⟩ ⟨e1, e2⟩
    cases rest with
    | nil => cases e1
    | cons x rest =>
      have e1 : d :: r = ixD done (x :: rest) := e1
      rw [ix_cons] at e1
      injection e1 with a b
      subst a b
      have e2 : rows = done ++ x :: rest := e2
      have hlen : done.length ≤ 100 := by rw [e2, List.length_append] at hl; omega
      have hx : x ∈ rows := by rw [e2]; simp
      refine WT.name ⟨.inl rfl, rfl⟩ ?_
      refine WSs.cons (WS.setDict ?_ rfl ?_)
      · walk_at "ev"
        refine JG.lst (by omega) (get_atI _ e2) (by omega) ?_
        walk_at "ev"
        refine JG.lst (by omega) (get_atI _ e2) (by omega) ?_
        walk_at "ev"
        refine JG.lst (by omega) (get_atI _ e2) (by omega) ?_
        walk_at "ev"
        refine WE.meth (pl := ?pl1) (WE.sub (WV.of (WE.name rfl (WV.of (WE.name rfl (JG.lst (by omega) (get_atI _ e2) (by omega) ⟨83, _, 52, rfl, rfl, by kernel_rfl, by kernel_rfl, by kernel_rfl, by kernel_rfl, WA.of (WL.cons (WE.name rfl (WL.nil (c_indent (by show 1 ≤ cx.fuel - 1; omega) _ _ (hfit x hx) ts h1 h2 ?_))) fun _ => rfl)⟩)))))) ?he1
        case he1 => rfl
        refine WL.cons (WE.dict' ?_) fun _ => rfl
        refine WD.cons ?_
        walk_at "ev"
        refine JG.lst (by omega) (get_atI _ e2) (by omega) ⟨_, rfl, ?_⟩
        walk_at "ev"
        refine JG.lst (by omega) (get_atI _ e2) (by omega) (WD.nil ⟨List.nodup_cons.mpr ⟨List.not_mem_nil, List.nodup_nil⟩, ?_⟩)
        walk_at "ev"
        refine JG.lst (by omega) (get_atI _ e2) (by omega) ⟨_, rfl, ?_⟩
        refine WSs.nil ⟨(done ++ [x], rest), ⟨rfl, by rw [e2]; simp⟩, ⟨?_, rfl, rfl, rfl, rfl, rfl, trivial⟩⟩
        show some (D.dic (putD (S x.p) (entOf ts x) (done.map fun r => (S r.p, entOf ts r)))) = some (D.dic ((done ++ [x]).map fun r => (S r.p, entOf ts r)))
        rw [putD_new, List.map_append]; rfl
        intro q
        rw [List.map_map] at q
        obtain ⟨y, hy, e⟩ := List.mem_map.mp q
        have e : y.p = x.p := S_inj.mp e
        rw [e2, List.map_append] at hn
        exact (List.nodup_append.mp hn).2.2 y.p (List.mem_map.mpr ⟨y, hy, rfl⟩) x.p (by simp) e
      · rw [List.length_map]; show done.length ≤ _; omega
  · rintro ⟨done, rest⟩ ⟨e1, e2⟩
    cases rest with
    | cons x rest => have e1 : [] = ixD done (x :: rest) := e1; rw [ix_cons] at e1; cases e1
    | nil =>
      have e2 : rows = done := by simpa using e2
      subst e2
      exact WSs.cons (WS.retMut rfl ⟨_, rfl, z⟩)
end
end

section
section
variable {prog : Program} {w : World} {B : Base (K0.heap_1 w.params)} {cx : Cx} {Ψ : D → Prop}

structure Acc where
  a : Int
  b : Int
  c : Int
  d : Int
  t : Tab
noncomputable def Acc.ent (x : Acc) : D := entD x.a x.b x.c x.d x.t
noncomputable def pre (p q : List Nat) : Bool := decide (q.take p.length = p)
noncomputable def tabsN (p : List Nat) : Int := Txt.count (S p) (S [9])
noncomputable def toldStep (col : Row → Int) (p : List Nat) (x : Acc) (r : Row) : Acc := if pre p r.p then ⟨x.a + tabsN r.p, x.b + r.p.length, x.c + r.wt, x.d + col r, x.t ++ [(r.wr, r.wt)]⟩ else x
noncomputable def toldOf (col : Row → Int) (rows : List Row) (p : List Nat) : Acc := rows.foldl (toldStep col p) ⟨0, 0, 0, 0, []⟩
noncomputable def toldRow (col : Row → Int) (rows : List Row) (r : Row) : Str × D := (S r.p, .tup [(toldOf col rows r.p).ent, .int (toldOf col rows r.p).c])
theorem told_tab (col : Row → Int) (p : List Nat) : ∀ (rows : List Row) (x : Acc), ∃ l : List Row, l.Sublist rows ∧ (rows.foldl (toldStep col p) x).t = x.t ++ l.map fun r => (r.wr, r.wt)
  | [], x => ⟨[], .slnil, by simp⟩
  | r :: rows, x => by
    obtain ⟨l, h1, h2⟩ := told_tab col p rows (toldStep col p x r)
    rw [List.foldl_cons, h2]
    unfold toldStep
    split
    · exact ⟨r :: l, h1.cons₂ _, by simp⟩
    · exact ⟨l, h1.cons _, rfl⟩

theorem c_told (hf : 5 ≤ cx.fuel) (rows : List Row) (col : Row → Int) (hpl : ∀ r ∈ rows, r.p.length ≤ 1000) (hn : (rows.map (·.p)).Nodup) (hw : (rows.map (·.wr)).Nodup) (hl : rows.length ≤ 100) (z : Ψ (.dic (rows.map (toldRow col rows)))) :
    JC prog w B cx (.ref 324) [rowsP rows, rowsW rows, .lst (rows.map fun r => .int (col r)), rowsR rows] Ψ := by
  refine JC.fn (f := 324) ["paths", "weights", "columns", "written"] ["told", "table"] (by omega) (by rfl) (by decide) rfl (fun vs h => ?_) (by kernel_rfl) (by decide) (by decide) (by decide) rfl (fun L => ?_)
  · obtain ⟨a, b, c, d, rfl⟩ := ar4 h
    exact rfl
  refine WSs.cons (WS.assignNew (WN.dict ?_) rfl rfl (fun _ e => nomatch e))
  refine WSs.for (WI.of (WE.name rfl (JI.list ?_)))
  refine ⟨List Row × List Row, fun ds s => ds = s.2.map (fun r => D.str (S r.p)) ∧ rows = s.1 ++ s.2, fun s => [("told", .dic (s.1.map (toldRow col rows))), ("paths", rowsP rows), ("weights", rowsW rows), ("columns", .lst (rows.map fun r => .int (col r))), ("written", rowsR rows)], ([], rows), ⟨rfl, rfl⟩, ⟨rfl, rfl, rfl, rfl, rfl, trivial⟩, ?_, ?_⟩
  · rintro d r ⟨done, rest⟩ ⟨e1, e2⟩
    cases rest with
    | nil => cases e1
    | cons x rest =>
      have e1 : d :: r = D.str (S x.p) :: rest.map (fun r => D.str (S r.p)) := e1
      injection e1 with a b
      subst a b
      have e2 : rows = done ++ x :: rest := e2
      have hlen : done.length ≤ 100 := by rw [e2, List.length_append] at hl; omega
      have hx : x ∈ rows := by rw [e2]; simp
      refine WT.name ⟨.inl rfl, rfl⟩ ?_
      refine WSs.cons (WS.assignTupNew ?_ ⟨.inl rfl, rfl⟩ ⟨.inl rfl, rfl⟩ ⟨.inl rfl, rfl⟩ ⟨.inl rfl, rfl⟩ rfl rfl (fun _ e => nomatch e))
      refine WSs.for (WI.range1 ?_ rfl (by kernel_rfl))
      walk_at "ev"
      · rw [List.length_map]; omega
      rw [List.length_map]
      refine ⟨by omega, by omega, ?_⟩
      rw [range_ix]
      refine ⟨List Row × List Row × Acc, fun ds s => ds = ixD s.1 s.2.1 ∧ rows = s.1 ++ s.2.1 ∧ s.2.1.foldl (toldStep col x.p) s.2.2 = toldOf col rows x.p ∧ s.2.2 = s.1.foldl (toldStep col x.p) ⟨0, 0, 0, 0, []⟩, fun s => [("tabs", .int s.2.2.a), ("signs", .int s.2.2.b), ("weight", .int s.2.2.c), ("column", .int s.2.2.d), ("table", .dic (tabD s.2.2.t)), ("path", .str (S x.p)),
        ("told", .dic (done.map (toldRow col rows))), ("paths", rowsP rows), ("weights", rowsW rows), ("columns", .lst (rows.map fun r => .int (col r))), ("written", rowsR rows)], ([], rows, ⟨0, 0, 0, 0, []⟩), ⟨rfl, rfl, rfl, rfl⟩, ⟨rfl, rfl, rfl, rfl, rfl, rfl, rfl, rfl, rfl, rfl, rfl, trivial⟩, ?_, ?_⟩
      · rintro d r ⟨dn, rs, acc⟩ ⟨f1, f2, f3, f4⟩
        cases rs with
        | nil => cases f1
        | cons y rs =>
          have f1 : d :: r = ixD dn (y :: rs) := f1
          rw [ix_cons] at f1
          injection f1 with a b
          subst a b
          have f2 : rows = dn ++ y :: rs := f2
          have f3 : (y :: rs).foldl (toldStep col x.p) acc = toldOf col rows x.p := f3
          have f4 : acc = dn.foldl (toldStep col x.p) ⟨0, 0, 0, 0, []⟩ := f4
          have hdn : dn.length ≤ 100 := by rw [f2, List.length_append] at hl; omega
          have hy : y ∈ rows := by rw [f2]; simp
          refine WT.name ⟨.inl rfl, rfl⟩ ?_
          refine WSs.cons (WS.if (WB.compare (WV.of (WE.sliceS ?_))))
          walk_at "ev"
          refine JG.lst (by omega) (get_atI _ f2) (by omega) ⟨_, rfl, by rw [S_length]; have := hpl y hy; omega, ?_⟩
          walk_at "ev"
          · rw [S_length]; have := hpl x hx; omega
          rw [S_length, S_upTo, S_beq]
          by_cases hp : y.p.take x.p.length = x.p
          · refine iteT (decide_eq_true hp) ?_
            have hpre : pre x.p y.p = true := decide_eq_true hp
            refine WSs.cons (WS.aug rfl (WE.count (pl := ?pl1) ?_ ?he1) rfl)
            case he1 => rfl
            walk_at "ev"
            refine JG.lst (by omega) (get_atI _ f2) (by omega) ⟨_, rfl, ?_⟩
            walk_at "ev"
            refine WSs.cons (WS.aug rfl ?_ rfl)
            walk_at "ev"
            refine JG.lst (by omega) (get_atI _ f2) (by omega) ?_
            walk_at "ev"
            · rw [S_length]; have := hpl y hy; omega
            refine WSs.cons (WS.aug rfl ?_ rfl)
            walk_at "ev"
            refine JG.lst (by omega) (get_atI _ f2) (by omega) ?_
            walk_at "ev"
            refine WSs.cons (WS.aug rfl ?_ rfl)
            walk_at "ev"
            refine JG.lst (by omega) (get_atI _ f2) (by omega) ?_
            walk_at "ev"
            obtain ⟨l, hsub, hl2⟩ := told_tab col x.p dn ⟨0, 0, 0, 0, []⟩
            rw [← f4] at hl2
            refine WSs.cons (WS.setDict ?_ rfl ?_)
            · walk_at "ev"
              refine JG.lst (by omega) (get_atI _ f2) (by omega) ?_
              walk_at "ev"
              refine JG.lst (by omega) (get_atI _ f2) (by omega) ⟨_, rfl, ?_⟩
              refine WSs.nil (WSs.nil ⟨(dn ++ [y], rs, toldStep col x.p acc y), ⟨rfl, by rw [f2]; simp, f3, ?_⟩, ?_⟩)
              · show toldStep col x.p acc y = _
                rw [List.foldl_append, ← f4]; rfl
              · have he : toldStep col x.p acc y = ⟨acc.a + tabsN y.p, acc.b + y.p.length, acc.c + y.wt, acc.d + col y, acc.t ++ [(y.wr, y.wt)]⟩ := by unfold toldStep; rw [if_pos hpre]
                rw [S_length]
                show Has _ [("tabs", .int (toldStep col x.p acc y).a), ("signs", .int (toldStep col x.p acc y).b), ("weight", .int (toldStep col x.p acc y).c), ("column", .int (toldStep col x.p acc y).d), ("table", .dic (tabD (toldStep col x.p acc y).t)), ("path", .str (S x.p)),
                  ("told", .dic (done.map (toldRow col rows))), ("paths", rowsP rows), ("weights", rowsW rows), ("columns", .lst (rows.map fun r => .int (col r))), ("written", rowsR rows)]
                rw [he]
                refine ⟨rfl, rfl, rfl, rfl, ?_, rfl, rfl, rfl, rfl, rfl, rfl, trivial⟩
                show some (D.dic (putD (S y.wr) (.int y.wt) (tabD acc.t))) = some (D.dic (tabD (acc.t ++ [(y.wr, y.wt)])))
                rw [tab_put]
                rw [hl2, List.nil_append, List.map_map]
                intro q
                obtain ⟨u, hu, e⟩ := List.mem_map.mp q
                have e : u.wr = y.wr := e
                rw [f2, List.map_append] at hw
                exact (List.nodup_append.mp hw).2.2 u.wr (List.mem_map.mpr ⟨u, hsub.subset hu, rfl⟩) y.wr (by simp) e
            · have : acc.t.length ≤ 100 := by
                rw [hl2, List.nil_append, List.length_map]
                exact Nat.le_trans hsub.length_le hdn
              unfold tabD; rw [List.length_map]; show acc.t.length ≤ _; omega
          · refine iteF (by simpa using hp) ?_
            have hpre : pre x.p y.p = false := decide_eq_false hp
            have he : toldStep col x.p acc y = acc := by unfold toldStep; rw [if_neg (by rw [hpre]; decide)]
            refine WSs.nil (WSs.nil ⟨(dn ++ [y], rs, acc), ⟨rfl, by rw [f2]; simp, ?_, ?_⟩, ⟨rfl, rfl, rfl, rfl, rfl, rfl, rfl, rfl, rfl, rfl, rfl, trivial⟩⟩)
            · rw [List.foldl_cons, he] at f3; exact f3
            · show acc = _; rw [List.foldl_append, ← f4]; exact he.symm
      · rintro ⟨dn, rs, acc⟩ ⟨f1, f2, f3, f4⟩
        cases rs with
        | cons y rs => have f1 : [] = ixD dn (y :: rs) := f1; rw [ix_cons] at f1; cases f1
        | nil =>
          have f3 : acc = toldOf col rows x.p := f3
          subst f3
          refine WSs.cons (WS.freeze (t := "table") rfl (WS.setDict ?_ rfl ?_))
          · walk_at "ev"
            refine WSs.nil ⟨(done ++ [x], rest), ⟨rfl, by rw [e2]; simp⟩, ⟨?_, rfl, rfl, rfl, rfl, trivial⟩⟩
            show some (D.dic (putD (S x.p) (.tup [(toldOf col rows x.p).ent, .int (toldOf col rows x.p).c]) (done.map (toldRow col rows)))) = some (D.dic ((done ++ [x]).map (toldRow col rows)))
            rw [putD_new, List.map_append]; rfl
            intro q
            rw [List.map_map] at q
            obtain ⟨y, hy, e⟩ := List.mem_map.mp q
            have e : y.p = x.p := S_inj.mp e
            rw [e2, List.map_append] at hn
            exact (List.nodup_append.mp hn).2.2 y.p (List.mem_map.mpr ⟨y, hy, rfl⟩) x.p (by simp) e
          · rw [List.length_map]; omega
  · rintro ⟨done, rest⟩ ⟨e1, e2⟩
    have : rest = [] := by simpa using e1.symm
    subst this
    have e2 : rows = done := by simpa using e2
    subst e2
    exact WSs.cons (WS.retMut rfl ⟨_, rfl, z⟩)
end
end

section
section
variable {prog : Program} {w : World} {B : Base (K0.heap_1 w.params)} {cx : Cx} {Ψ : D → Prop}

theorem J2.isub {K : Frag} {B : Base K} {a b : Int} (z : Ψ (.int (a - b))) : J2 prog w B cx (inplaceOp .Sub) (.int a) (.int b) Ψ :=
  J2.int fun s Q E t u R => PyProof.Rows.isub_int (R _ _ (Nat.le_succ _) ⟨_, z, fun _ => .int _ _⟩)
theorem Has.trans {ρ ρ' : List (Str × D)} (k : Has ρ ρ') : ∀ {l : List (Str × D)}, Has ρ' l → Has ρ l
  | [], _ => trivial
  | _ :: _, h => ⟨k.look _ _ h.1, k.trans h.2⟩
/-- a loop whose ways out meet -/
theorem WSs.whileC {K : Frag} {B : Base K} {ρ : List (Str × D)} {Φ : Fl → List (Str × D) → Prop} {t : Expr} {body rest : List Stmt} {p : Pos} {σ : Type} (I : Nat → σ → Prop) (env : σ → List (Str × D)) (n : Nat) (s0 : σ) (i0 : I n s0) (h0 : Has ρ (env s0)) (τ : Type) (J : τ → Prop) (env' : τ → List (Str × D))
    (step : ∀ n s, I n s → WB prog w B cx t (fun q => if q = true then WSs prog w B cx body (Turn (Cut Φ fun ρ' => ∃ u, J u ∧ Has ρ' (env' u)) fun ρ' => ∃ m s', m < n ∧ I m s' ∧ Has ρ' (env s')) (env s) else ∃ u, J u ∧ Has (env s) (env' u)) (env s))
    (y : ∀ u, J u → WSs prog w B cx rest Φ (env' u)) : WSs prog w B cx (.While t body [] p :: rest) Φ ρ := by
  refine WSs.cut τ J env' (WS.while (fun n ρ => ∃ s, I n s ∧ Has ρ (env s)) ?_ n ⟨s0, i0, h0⟩) y
  rintro n ρ' ⟨s, i, k⟩
  refine fun O G s' Q E S tk R => step n s i O G s' Q E (S.weaken k.look) tk fun b h' tk' G' g t z => R b h' tk' G' g t ?_
  cases b with
  | true =>
    refine WSs.weaken k.look ?_
    exact fun O G s Q E S tk R => z O G s Q E S tk fun f fl ρ' h' tk' O' G' st S' fr t y => R f fl ρ' h' tk' O' G' st S' fr t (by
      cases fl with
      | next => obtain ⟨m, s', a, b, c⟩ := y; exact ⟨m, a, s', b, c⟩
      | cont => obtain ⟨m, s', a, b, c⟩ := y; exact ⟨m, a, s', b, c⟩
      | brk => exact y
      | ret d => exact y)
  | false =>
    obtain ⟨u, hu, hh⟩ := z
    exact ⟨u, hu, k.trans hh⟩

noncomputable def entStep (ts : Nat) (x : Acc) (r : Row) : Acc := ⟨(ws r.p).nt + x.a, (ws r.p).n + x.b, r.wt + x.c, indentI (ws r.p) ts + x.d, x.t ++ [(r.wr, r.wt)]⟩
noncomputable def blockOf (ts : Nat) (l : List Row) : Acc := l.foldl (entStep ts) ⟨0, 0, 0, 0, []⟩
theorem block_tab (ts : Nat) : ∀ (l : List Row) (x : Acc), (l.foldl (entStep ts) x).t = x.t ++ l.map fun r => (r.wr, r.wt)
  | [], x => by simp
  | r :: l, x => by rw [List.foldl_cons, block_tab ts l]; show x.t ++ [(r.wr, r.wt)] ++ _ = _; simp
noncomputable def lessAt (rows : List Row) (i j : Nat) : Bool := lessB (ws ((rows.map (·.p)).getD i [])) (ws ((rows.map (·.p)).getD j []))
noncomputable def branchRow (ts : Nat) (rows : List Row) (fr bk : Nat → Nat) (i : Nat) (r : Row) : Str × D :=
  (S r.p, .tup [(blockOf ts ((rows.drop (fr i)).take (bk i - fr i))).ent, .int ((blockOf ts ((rows.drop (fr i)).take (bk i - fr i))).t.foldl (fun n e => n + e.2) 0)])

/-- how far a branch reaches -/
structure Reach (rows : List Row) (kind : Nat) (fr bk : Nat → Nat) (i : Nat) : Prop where
  le : fr i ≤ i
  lt : i < bk i
  top : bk i ≤ rows.length
  fr0 : kind = 0 → fr i = i
  frL : 0 < kind → ∀ j, fr i ≤ j → j < i → lessAt rows i j = true
  frE : 0 < kind → 0 < fr i → lessAt rows i (fr i - 1) = false
  bk0 : ¬kind < 2 → bk i = i + 1
  bkL : kind < 2 → ∀ j, i < j → j < bk i → lessAt rows i j = true
  bkE : kind < 2 → bk i < rows.length → lessAt rows i (bk i) = false

theorem leads_at {rows : List Row} {i : Nat} (h : i < rows.length) : (rows.map fun r => leadD r.p)[i]? = some (leadD ((rows.map (·.p)).getD i [])) := by
  rw [List.getElem?_map, List.getElem?_eq_getElem h]
  simp [List.getD, List.getElem?_eq_getElem h]
theorem getD_mem {rows : List Row} {i : Nat} (h : i < rows.length) : ∃ r ∈ rows, (rows.map (·.p)).getD i [] = r.p := by
  refine ⟨rows[i], List.getElem_mem h, ?_⟩
  simp [List.getD, List.getElem?_eq_getElem h]

theorem c_branches (hf : 9 ≤ cx.fuel) (rows : List Row) (es : List (Str × D)) (ts kind : Nat) (hk2 : kind ≤ 2) (hes : ∀ r ∈ rows, es.lookup (S r.p) = some (entOf ts r)) (hfit : ∀ r ∈ rows, (ws r.p).fit) (hn : (rows.map (·.p)).Nodup) (hw : (rows.map (·.wr)).Nodup) (hl : rows.length ≤ 100)
    (fr bk : Nat → Nat) (hr : ∀ i, i < rows.length → Reach rows kind fr bk i) (z : Ψ (.dic (rows.zipIdx.map fun x => branchRow ts rows fr bk x.2 x.1))) :
    JC prog w B cx (.ref 310) [rowsP rows, rowsL rows, .dic es, .int kind] Ψ := by
  refine JC.fn (f := 310) ["walk", "leads", "entries", "kind"] ["branches"] (by omega) (by rfl) (by decide) rfl (fun vs h => ?_) (by kernel_rfl) (by decide) (by decide) (by decide) rfl (fun L => ?_)
  · obtain ⟨a, b, c, d, rfl⟩ := ar4 h
    exact rfl
  have hless : ∀ (cx' : Cx), 5 ≤ cx'.fuel → ∀ i j, i < rows.length → j < rows.length → ∀ Ψ' : D → Prop, Ψ' (.bool (lessAt rows i j)) → JC prog w B cx' (.ref 73) [leadD ((rows.map (·.p)).getD i []), leadD ((rows.map (·.p)).getD j [])] Ψ' := fun cx' hf' i j hi hj Ψ' hz => by
    obtain ⟨r1, m1, e1⟩ := getD_mem hi
    obtain ⟨r2, m2, e2⟩ := getD_mem hj
    refine c_less hf' _ _ _ _ ?_ ?_ hz
    · rw [e1]; exact hfit r1 m1
    · rw [e2]; exact hfit r2 m2
  refine WSs.cons (WS.assignNew (WN.dict ?_) rfl rfl (fun _ e => nomatch e))
  refine WSs.for (WI.range1 ?_ rfl (by kernel_rfl))
  walk_at "ev"
  · rw [List.length_map]; omega
  rw [List.length_map]
  refine ⟨by omega, by omega, ?_⟩
  rw [range_ix]
  refine ⟨List Row × List Row, fun ds s => ds = ixD s.1 s.2 ∧ rows = s.1 ++ s.2, fun s => [("branches", .dic (s.1.zipIdx.map fun x => branchRow ts rows fr bk x.2 x.1)), ("walk", rowsP rows), ("leads", rowsL rows), ("entries", .dic es), ("kind", .int kind)], ([], rows), ⟨rfl, rfl⟩, ⟨rfl, rfl, rfl, rfl, rfl, trivial⟩, ?_, ?_⟩
  · rintro d r ⟨done, rest⟩ ⟨e1, e2⟩
    cases rest with
    | nil => cases e1
    | cons x rest =>
      have e1 : d :: r = ixD done (x :: rest) := e1
      rw [ix_cons] at e1
      injection e1 with a b
      subst a b
      have e2 : rows = done ++ x :: rest := e2
      have hi : done.length < rows.length := by rw [e2, List.length_append, List.length_cons]; omega
      have R := hr done.length hi
      have r1 := R.le; have r2 := R.lt; have r3 := R.top
      refine WT.name ⟨.inl rfl, rfl⟩ ?_
      refine WSs.cons (WS.assign (WE.name rfl ?_) ⟨.inl rfl, rfl⟩)
      rw [Int.zero_add]
      -- how far in front
      refine WSs.whileC (σ := Nat) (fun n f => n = f ∧ fr done.length ≤ f ∧ f ≤ done.length) (fun f => [("front", .int f), ("place", .int done.length), ("branches", .dic (done.zipIdx.map fun x => branchRow ts rows fr bk x.2 x.1)), ("walk", rowsP rows), ("leads", rowsL rows), ("entries", .dic es), ("kind", .int kind)]) done.length done.length ⟨rfl, r1, Nat.le_refl _⟩ ⟨rfl, rfl, rfl, rfl, rfl, rfl, rfl, trivial⟩
        Unit (fun _ => True) (fun _ => [("front", .int (fr done.length)), ("place", .int done.length), ("branches", .dic (done.zipIdx.map fun x => branchRow ts rows fr bk x.2 x.1)), ("walk", rowsP rows), ("leads", rowsL rows), ("entries", .dic es), ("kind", .int kind)]) ?_ fun _ _ => ?_
      · rintro n f ⟨rfl, f1, f2⟩
        have stop : n = fr done.length → ∃ u : Unit, True ∧ Has [(("front" : Str), D.int n), ("place", .int done.length), ("branches", .dic (done.zipIdx.map fun x => branchRow ts rows fr bk x.2 x.1)), ("walk", rowsP rows), ("leads", rowsL rows), ("entries", .dic es), ("kind", .int kind)]
            [("front", .int (fr done.length)), ("place", .int done.length), ("branches", .dic (done.zipIdx.map fun x => branchRow ts rows fr bk x.2 x.1)), ("walk", rowsP rows), ("leads", rowsL rows), ("entries", .dic es), ("kind", .int kind)] := fun h => by
          rw [h]; exact ⟨(), trivial, ⟨rfl, rfl, rfl, rfl, rfl, rfl, rfl, trivial⟩⟩
        refine WB.and3 (WB.compare (WV.of ?_))
        walk_at "ev"
        by_cases k0 : 0 < kind
        · refine iteT (decide_eq_true (by omega)) ?_
          refine WB.compare (WV.of ?_)
          walk_at "ev"
          by_cases n0 : 0 < n
          · refine iteT (decide_eq_true (by omega)) ?_
            refine WB.other (WV.of (WE.meth (pl := ?pl1) (WE.sub (WV.of (WE.name rfl (WV.of (WE.name rfl (JG.lst (by omega) (by rw [Int.toNat_natCast]; exact leads_at hi) (by omega) ⟨83, _, 73, rfl, rfl, by kernel_rfl, by kernel_rfl, by kernel_rfl, by kernel_rfl, WA.of (WL.cons ?_ fun _ => rfl)⟩)))))) ?he1))
            case he1 => rfl
            have hm : ((n : Int) - 1).toNat = n - 1 := by omega
            walk_at "ev"
            refine JG.lst (by omega) (by rw [hm]; exact leads_at (by omega)) (by omega) (WL.nil (hless _ (by show 5 ≤ cx.fuel - 1; omega) _ _ hi (by omega) _ ?_))
            refine JT.bool ?_
            by_cases hL : lessAt rows done.length (n - 1) = true
            · refine iteT hL ?_
              have hf : fr done.length < n := by
                rcases Nat.lt_or_ge (fr done.length) n with h | h
                · exact h
                · have := R.frE k0 (by omega)
                  have e : fr done.length = n := by omega
                  rw [e, hL] at this; cases this
              refine WSs.cons (WS.aug rfl (WE.int (J2.isub ?_)) rfl)
              refine WSs.nil ⟨n - 1, n - 1, by omega, ⟨rfl, by omega, by omega⟩, ⟨?_, rfl, rfl, rfl, rfl, rfl, rfl, trivial⟩⟩
              have : ((n : Int) - 1) = ((n - 1 : Nat) : Int) := by omega
              rw [this]; rfl
            · refine iteF hL (stop ?_)
              rcases Nat.lt_or_ge (fr done.length) n with h | h
              · have := R.frL k0 (n - 1) (by omega) (by omega)
                exact absurd this hL
              · omega
          · refine iteF (by simpa using n0) (iteF (by decide) (stop (by omega)))
        · refine iteF (by simpa using k0) (iteF (by decide) (stop ?_))
          have := R.fr0 (by omega)
          omega
      refine WSs.cons (WS.assign ?_ ⟨.inl rfl, rfl⟩)
      walk_at "ev"
      -- how far behind
      refine WSs.whileC (σ := Nat) (fun n b => n + b = rows.length ∧ done.length < b ∧ b ≤ bk done.length) (fun b => [("back", .int b), ("front", .int (fr done.length)), ("place", .int done.length), ("branches", .dic (done.zipIdx.map fun x => branchRow ts rows fr bk x.2 x.1)), ("walk", rowsP rows), ("leads", rowsL rows), ("entries", .dic es), ("kind", .int kind)]) (rows.length - (done.length + 1)) (done.length + 1) ⟨by omega, by omega, by omega⟩ ⟨rfl, rfl, rfl, rfl, rfl, rfl, rfl, rfl, trivial⟩
        Unit (fun _ => True) (fun _ => [("back", .int (bk done.length)), ("front", .int (fr done.length)), ("place", .int done.length), ("branches", .dic (done.zipIdx.map fun x => branchRow ts rows fr bk x.2 x.1)), ("walk", rowsP rows), ("leads", rowsL rows), ("entries", .dic es), ("kind", .int kind)]) ?_ fun _ _ => ?_
      · rintro n b ⟨f0, f1, f2⟩
        have stop : b = bk done.length → ∃ u : Unit, True ∧ Has [(("back" : Str), D.int b), ("front", .int (fr done.length)), ("place", .int done.length), ("branches", .dic (done.zipIdx.map fun x => branchRow ts rows fr bk x.2 x.1)), ("walk", rowsP rows), ("leads", rowsL rows), ("entries", .dic es), ("kind", .int kind)]
            [("back", .int (bk done.length)), ("front", .int (fr done.length)), ("place", .int done.length), ("branches", .dic (done.zipIdx.map fun x => branchRow ts rows fr bk x.2 x.1)), ("walk", rowsP rows), ("leads", rowsL rows), ("entries", .dic es), ("kind", .int kind)] := fun h => by
          rw [h]; exact ⟨(), trivial, ⟨rfl, rfl, rfl, rfl, rfl, rfl, rfl, rfl, trivial⟩⟩
        refine WB.and3 (WB.compare (WV.of ?_))
        walk_at "ev"
        by_cases k2 : kind < 2
        · refine iteT (decide_eq_true (by omega)) ?_
          refine WB.compare (WV.of ?_)
          walk_at "ev"
          · rw [List.length_map]; omega
          rw [List.length_map]
          by_cases b0 : b < rows.length
          · refine iteT (decide_eq_true (by omega)) ?_
            refine WB.other (WV.of (WE.meth (pl := ?pl1) (WE.sub (WV.of (WE.name rfl (WV.of (WE.name rfl (JG.lst (by omega) (by rw [Int.toNat_natCast]; exact leads_at hi) (by omega) ⟨83, _, 73, rfl, rfl, by kernel_rfl, by kernel_rfl, by kernel_rfl, by kernel_rfl, WA.of (WL.cons ?_ fun _ => rfl)⟩)))))) ?he1))
            case he1 => rfl
            walk_at "ev"
            refine JG.lst (by omega) (by rw [Int.toNat_natCast]; exact leads_at b0) (by omega) (WL.nil (hless _ (by show 5 ≤ cx.fuel - 1; omega) _ _ hi b0 _ ?_))
            refine JT.bool ?_
            by_cases hL : lessAt rows done.length b = true
            · refine iteT hL ?_
              have hf : b < bk done.length := by
                rcases Nat.lt_or_ge b (bk done.length) with h | h
                · exact h
                · have e : bk done.length = b := by omega
                  have := R.bkE k2 (by omega)
                  rw [e, hL] at this; cases this
              refine WSs.cons (WS.aug rfl (WE.int (J2.iadd ?_)) rfl)
              exact WSs.nil ⟨n - 1, b + 1, by omega, ⟨by omega, by omega, by omega⟩, ⟨rfl, rfl, rfl, rfl, rfl, rfl, rfl, rfl, trivial⟩⟩
            · refine iteF hL (stop ?_)
              rcases Nat.lt_or_ge b (bk done.length) with h | h
              · exact absurd (R.bkL k2 b (by omega) h) hL
              · omega
          · refine iteF (by simpa using b0) (iteF (by decide) (stop (by omega)))
        · refine iteF (by simp only [decide_eq_true_eq]; omega) (iteF (by decide) (stop ?_))
          have := R.bk0 k2
          omega
      -- the branch, summed
      refine WSs.cons (WS.assign ?_ ⟨.inl rfl, rfl⟩)
      walk_at "ev"
      refine WSs.for (WI.of (WE.sliceL (WV.of (WE.name rfl ⟨_, rfl, by rw [List.length_map]; omega, WP.some ?_⟩))))
      walk_at "ev"
      refine WP.some ?_
      walk_at "ev"
      refine JI.list ?_
      have hcut : cut (rows.map fun r => D.str (S r.p)) (some (fr done.length : Int)) (some (bk done.length : Int)) = ((rows.drop (fr done.length)).take (bk done.length - fr done.length)).map fun r => D.str (S r.p) := by
        unfold cut
        show (List.drop (clipAt _ (fr done.length : Int)) _).take (clipAt _ (bk done.length : Int) - clipAt _ (fr done.length : Int)) = _
        rw [clipAt_nat, clipAt_nat, List.length_map, Nat.min_eq_left r3, Nat.min_eq_left (show fr done.length ≤ rows.length by omega), ← List.map_drop, ← List.map_take]
      rw [hcut]
      have hsub : ((rows.drop (fr done.length)).take (bk done.length - fr done.length)).Sublist rows := (List.take_sublist _ _).trans (List.drop_sublist _ _)
      have hbn : branchRow ts rows fr bk done.length x = (S x.p, .tup [(blockOf ts ((rows.drop (fr done.length)).take (bk done.length - fr done.length))).ent, .int ((blockOf ts ((rows.drop (fr done.length)).take (bk done.length - fr done.length))).t.foldl (fun n e => n + e.2) 0)]) := rfl
      generalize (rows.drop (fr done.length)).take (bk done.length - fr done.length) = blk at hsub hbn
      have hlb : blk.length ≤ 100 := Nat.le_trans hsub.length_le hl
      refine ⟨List Row × List Row, fun ds s => ds = s.2.map (fun r => D.str (S r.p)) ∧ blk = s.1 ++ s.2, fun s => [("entry", (s.1.foldl (entStep ts) ⟨0, 0, 0, 0, []⟩).ent), ("place", .int done.length), ("branches", .dic (done.zipIdx.map fun x => branchRow ts rows fr bk x.2 x.1)), ("walk", rowsP rows), ("leads", rowsL rows), ("entries", .dic es), ("kind", .int kind)], ([], blk), ⟨rfl, rfl⟩, ⟨rfl, rfl, rfl, rfl, rfl, rfl, rfl, trivial⟩, ?_, ?_⟩
      · rintro d r ⟨dn, rs⟩ ⟨f1, f2⟩
        cases rs with
        | nil => cases f1
        | cons y rs =>
          have f1 : d :: r = D.str (S y.p) :: rs.map (fun r => D.str (S r.p)) := f1
          injection f1 with a b
          subst a b
          have f2 : blk = dn ++ y :: rs := f2
          have hy : y ∈ rows := hsub.subset (by rw [f2]; simp)
          refine WT.name ⟨.inl rfl, rfl⟩ ?_
          generalize hacc : dn.foldl (entStep ts) ⟨0, 0, 0, 0, []⟩ = acc
          have htab : acc.t = dn.map fun r => (r.wr, r.wt) := by rw [← hacc, block_tab]; rfl
          refine WSs.cons (WS.assign (WE.callG (a := 122) (WA.of (WL.cons (WE.name (d := acc.ent) (by show some _ = some _; rw [hacc]) ?_) fun _ => rfl)) rfl (by kernel_rfl) (by kernel_rfl)) ⟨.inl rfl, rfl⟩)
          refine WL.cons ?_ fun _ => rfl
          walk_at "ev"
          refine JG.dic (hes y hy) (WL.nil (c_stats (by show 3 ≤ cx.fuel - 1; omega) _ _ _ _ _ _ _ _ _ _ ?_ ?_ ?_))
          · rw [htab]
            have hd : (dn ++ [y]).Sublist rows := by
              refine List.Sublist.trans ?_ hsub
              rw [f2]
              exact (List.Sublist.append_left (List.singleton_sublist.mpr (List.mem_cons_self ..)) _)
            have := (hd.map (·.wr)).nodup hw
            have e : ((dn.map fun r => (r.wr, r.wt)) ++ [(y.wr, y.wt)]).map (·.1) = (dn ++ [y]).map (·.wr) := by
              rw [List.map_append, List.map_map, List.map_append]; rfl
            rw [e]; exact this
          · rw [htab, List.length_append, List.length_map]
            have : blk.length = dn.length + (y :: rs).length := by rw [f2, List.length_append]
            rw [List.length_cons] at this
            show dn.length + 1 ≤ _
            omega
          · refine WSs.nil ⟨(dn ++ [y], rs), ⟨rfl, by rw [f2]; simp⟩, ⟨?_, rfl, rfl, rfl, rfl, rfl, rfl, trivial⟩⟩
            have : (dn ++ [y]).foldl (entStep ts) ⟨0, 0, 0, 0, []⟩ = entStep ts acc y := by rw [List.foldl_append, hacc]; rfl
            show some _ = some ((dn ++ [y]).foldl (entStep ts) ⟨0, 0, 0, 0, []⟩).ent
            rw [this]; rfl
      · rintro ⟨dn, rs⟩ ⟨f1, f2⟩
        have : rs = [] := by simpa using f1.symm
        subst this
        have f2 : blk = dn := by simpa using f2
        subst f2
        refine WSs.cons (WS.setDict ?_ rfl ?_)
        · refine WE.tuple (WL.cons (WE.name rfl (WL.cons (WE.callG (a := 136) (WA.of (WL.cons ?_ fun _ => rfl)) rfl (by kernel_rfl) (by kernel_rfl)) fun _ => rfl)) fun _ => rfl)
          walk_at "ev"
          refine JG.tup (d := .dic (tabD (blk.foldl (entStep ts) ⟨0, 0, 0, 0, []⟩).t)) (by decide) rfl (by decide) (WL.nil (c_count (by show 1 ≤ cx.fuel - 1; omega) _ (WL.nil ?_)))
          walk_at "ev"
          refine JG.lst (by omega) (by rw [Int.toNat_natCast]; exact get_at _ e2) (by omega) ⟨_, rfl, ?_⟩
          refine WSs.nil ⟨(done ++ [x], rest), ⟨rfl, by rw [e2]; simp⟩, ⟨?_, rfl, rfl, rfl, rfl, trivial⟩⟩
          have hz : (done ++ [x]).zipIdx.map (fun x => branchRow ts rows fr bk x.2 x.1) = done.zipIdx.map (fun x => branchRow ts rows fr bk x.2 x.1) ++ [branchRow ts rows fr bk done.length x] := by
            rw [List.zipIdx_append, List.map_append, Nat.zero_add]; rfl
          show some (D.dic (putD (S x.p) _ (done.zipIdx.map fun x => branchRow ts rows fr bk x.2 x.1))) = some (D.dic ((done ++ [x]).zipIdx.map fun x => branchRow ts rows fr bk x.2 x.1))
          rw [hz, hbn, putD_new]; rfl
          intro q
          rw [List.map_map] at q
          obtain ⟨y, hy, e⟩ := List.mem_map.mp q
          have e : y.1.p = x.p := S_inj.mp e
          have hy' : y.1 ∈ done := by
            have : y.1 ∈ done.zipIdx.map Prod.fst := List.mem_map.mpr ⟨y, hy, rfl⟩
            rw [List.zipIdx_map_fst] at this
            exact this
          rw [e2, List.map_append] at hn
          exact (List.nodup_append.mp hn).2.2 y.1.p (List.mem_map.mpr ⟨y.1, hy', rfl⟩) x.p (by simp) e
        · rw [List.length_map, List.length_zipIdx]; omega
  · rintro ⟨done, rest⟩ ⟨e1, e2⟩
    cases rest with
    | cons x rest => have e1 : [] = ixD done (x :: rest) := e1; rw [ix_cons] at e1; cases e1
    | nil =>
      have e2 : rows = done := by simpa using e2
      subst e2
      exact WSs.cons (WS.retMut rfl ⟨_, rfl, z⟩)
end
end

section
section
variable {prog : Program} {w : World} {B : Base (K0.heap_1 w.params)} {cx : Cx} {Ψ : D → Prop}

theorem c_tc (hf : 5 ≤ cx.fuel) (sel : D) (z : Ψ (.obj 111 [("comp_select_list", sel)])) : JC prog w B cx (.ref 111) [sel] Ψ := by
  refine JC.new (C := 111) (f := 101) ["comp_select_list"] [] [] ["self"] (by omega) (by kernel_rfl) (by kernel_rfl) (by kernel_rfl) (by rfl) (by decide) rfl (fun G => .nil) (fun s self vs X h => ?_) (by kernel_rfl) (by decide) (by decide) (by decide) (by decide) rfl (fun args self L => ?_)
  · obtain ⟨a, rfl⟩ := ar1 h
    exact .of_eq rfl
  refine WSs.cons (WS.setAttr rfl (WE.name rfl ?_) (Nat.le_of_ble_eq_true rfl) (by kernel_rfl) (by kernel_rfl) (by kernel_rfl) (by kernel_rfl))
  exact WSs.nil ⟨rfl, _, rfl, z⟩

noncomputable def qnD (k : Str) : D := .obj 210 [("text", .str k)]
theorem c_qn (hf : 5 ≤ cx.fuel) (x : Str) (z : Ψ (qnD x)) : JC prog w B cx (.ref 210) [.str x] Ψ := by
  refine JC.new (C := 210) (f := 151) ["text_or_uri"] [("tag", .none)] [.none] ["self"] (by omega) (by kernel_rfl) (by kernel_rfl) (by kernel_rfl) (by rfl) (by decide) rfl (fun G => .cons .none .nil) (fun s self vs X h => ?_) (by kernel_rfl) (by decide) (by decide) (by decide) (by decide) rfl (fun args self L => ?_)
  · obtain ⟨a, rfl⟩ := ar1 h
    exact BindsTo.of_defaults rfl (X _ _ rfl) rfl rfl rfl
  refine WSs.cons (WS.if (WB.other (WV.of (WE.name rfl (JT.none ?_)))))
  refine iteF (by decide) ?_
  refine WSs.nil (WSs.cons (WS.setAttr rfl (WE.name rfl ?_) (Nat.le_of_ble_eq_true rfl) (by kernel_rfl) (by kernel_rfl) (by kernel_rfl) (by kernel_rfl)))
  exact WSs.nil ⟨rfl, _, rfl, z⟩

theorem c_lt (hf : 2 ≤ cx.fuel) (a b : Str) (z : Ψ (.bool (decide (sLt a b)))) : JC prog w B cx (.ref 186) [qnD a, qnD b] Ψ := by
  refine JC.fn (f := 186) ["self", "other"] [] (by omega) (by rfl) (by decide) rfl (fun vs h => ?_) (by kernel_rfl) (by decide) (by decide) (by decide) rfl (fun L => ?_)
  · obtain ⟨a, b, rfl⟩ := ar2 h
    exact rfl
  refine WSs.cons (WS.if (WB.other (WV.of (WE.callB (id := "isinstance") (WA.of (WL.cons (WE.name rfl (WL.cons (WE.glob (a := 210) (WL.nil (JC.isinst (JT.bool (iteT rfl ?_)) (by kernel_rfl))) rfl (by kernel_rfl)) fun _ => rfl)) fun _ => rfl)) rfl (by kernel_rfl) (by kernel_rfl)))))
  refine WSs.cons (WS.ret ?_)
  walk_at "ev"
  exact J2.sLt ⟨_, rfl, z⟩
theorem c_gt (hf : 2 ≤ cx.fuel) (a b : Str) (z : Ψ (.bool (decide (sLt b a)))) : JC prog w B cx (.ref 200) [qnD a, qnD b] Ψ := by
  refine JC.fn (f := 200) ["self", "other"] [] (by omega) (by rfl) (by decide) rfl (fun vs h => ?_) (by kernel_rfl) (by decide) (by decide) (by decide) rfl (fun L => ?_)
  · obtain ⟨a, b, rfl⟩ := ar2 h
    exact rfl
  refine WSs.cons (WS.if (WB.other (WV.of (WE.callB (id := "isinstance") (WA.of (WL.cons (WE.name rfl (WL.cons (WE.glob (a := 210) (WL.nil (JC.isinst (JT.bool (iteT rfl ?_)) (by kernel_rfl))) rfl (by kernel_rfl)) fun _ => rfl)) fun _ => rfl)) rfl (by kernel_rfl) (by kernel_rfl)))))
  refine WSs.cons (WS.ret ?_)
  walk_at "ev"
  exact J2.sGt ⟨_, rfl, z⟩

noncomputable def testD (way : Int) : D := .obj 111 [("comp_select_list", .tup [.tup [.int 0, .int way]])]
noncomputable def rowK (k p : Str) : D := .tup [qnD k, .str p]
noncomputable def cmpI (way : Int) (a b : Str) : Int := if sLt a b then -way else if sLt b a then way else 0
theorem c_compare (hf : 5 ≤ cx.fuel) (way : Int) (a b p q : Str) (z : Ψ (.int (cmpI way a b))) : JC prog w B cx (.ref 108) [testD way, rowK a p, rowK b q] Ψ := by
  refine JC.fn (f := 108) ["self", "left", "right"] [] (by omega) (by rfl) (by decide) rfl (fun vs h => ?_) (by kernel_rfl) (by decide) (by decide) (by decide) rfl (fun L => ?_)
  · obtain ⟨a, b, c, rfl⟩ := ar3 h
    exact rfl
  have hu : ∀ env (hk : env.scope.kind = .function) (hg : env.globals = mainGlobals) (hb : env.builtins = builtinsNs), (cx.deep env [] (by omega) hk hg hb).A.units < cLine := fun env hk hg hb => by
    have := (cx.deep env [] (by omega) hk hg hb).units; omega
  refine WSs.for (WI.of (WE.attr (WV.of (WE.name rfl (J1.attr rfl (JI.tup (.inr ⟨_, _, _, rfl⟩) ?_) (by kernel_rfl) (by kernel_rfl) (by kernel_rfl))))))
  refine ⟨Bool, fun ds s => (s = true ∧ ds = [.tup [.int 0, .int way]]) ∨ (s = false ∧ ds = [] ∧ ¬ sLt a b ∧ ¬ sLt b a), fun s => [("self", testD way), ("left", rowK a p), ("right", rowK b q)], true, .inl ⟨rfl, rfl⟩, ⟨rfl, rfl, rfl, trivial⟩, ?_, ?_⟩
  · rintro d r s (⟨rfl, e⟩ | ⟨_, e, _⟩)
    · injection e with e1 e2
      subst e1 e2
      refine WT.tuple (names := [("index", _), ("direction", _)]) rfl (fun n hn => ?_) rfl ?_
      · simp only [List.mem_cons, List.not_mem_nil, or_false] at hn
        rcases hn with rfl | rfl <;> exact ⟨.inl rfl, rfl⟩
      refine WSs.cons (WS.assign ?_ ⟨.inl rfl, rfl⟩)
      walk_at "ev"
      refine JG.tup (d := qnD a) (by decide) rfl (by decide) ?_
      refine WSs.cons (WS.assign ?_ ⟨.inl rfl, rfl⟩)
      walk_at "ev"
      refine JG.tup (d := qnD b) (by decide) rfl (by decide) ?_
      refine WSs.cons (WS.if (WB.compareE (WE.name rfl (WE.name rfl ?_))))
      refine J2E.obj (f := 186) (fun _ _ => rfl) (by kernel_rfl) (by kernel_rfl) (by kernel_rfl) (c_lt (by show 2 ≤ cx.fuel - 1; omega) a b ⟨_, rfl, _, rfl, ?_⟩) (hu _ rfl rfl rfl)
      by_cases h1 : sLt a b
      · refine iteT (decide_eq_true h1) ?_
        refine WSs.cons (WS.ret ?_)
        walk_at "ev"
        unfold cmpI at z; rw [if_pos h1] at z; exact z
      refine iteF (by simpa using h1) ?_
      refine WSs.nil ?_
      refine WSs.cons (WS.if (WB.compareE (WE.name rfl (WE.name rfl ?_))))
      refine J2E.obj (f := 200) (fun _ _ => rfl) (by kernel_rfl) (by kernel_rfl) (by kernel_rfl) (c_gt (by show 2 ≤ cx.fuel - 1; omega) a b ⟨_, rfl, _, rfl, ?_⟩) (hu _ rfl rfl rfl)
      by_cases h2 : sLt b a
      · refine iteT (decide_eq_true h2) ?_
        refine WSs.cons (WS.ret ?_)
        walk_at "ev"
        unfold cmpI at z; rw [if_neg h1, if_pos h2] at z; exact z
      refine iteF (by simpa using h2) ?_
      exact WSs.nil (WSs.nil ⟨false, .inr ⟨rfl, rfl, h1, h2⟩, ⟨rfl, rfl, rfl, trivial⟩⟩)
    · cases e
  · rintro s (⟨_, e⟩ | ⟨_, _, h1, h2⟩)
    · cases e
    · refine WSs.cons (WS.ret (WE.int ⟨_, rfl, ?_⟩))
      unfold cmpI at z; rw [if_neg h1, if_neg h2] at z; exact z

/-! ## sorted by insertion -/
theorem sLt_irrefl (x : Str) : ¬ sLt x x := List.lt_irrefl _
theorem sLt_trans {x y z : Str} (h : sLt x y) (h' : sLt y z) : sLt x z := List.lt_trans h h'
theorem sLt_tot {x y : Str} (h : x ≠ y) : sLt x y ∨ sLt y x := by
  by_cases g : sLt x y
  · exact .inl g
  · by_cases g' : sLt y x
    · exact .inr g'
    · exact absurd (by
        have := List.le_antisymm (List.not_lt.mp g') (List.not_lt.mp g)
        cases x; cases y; simpa using this) h
theorem cmp_back {way : Int} (hw : way ≠ 0) (a b : Str) : (cmpI way a b == -way) = decide (sLt a b) := by
  unfold cmpI
  by_cases h : sLt a b
  · rw [if_pos h, decide_eq_true h]; simp
  · rw [if_neg h, decide_eq_false h]
    split
    · exact beq_eq_false_iff_ne.mpr (by omega)
    · exact beq_eq_false_iff_ne.mpr (by omega)
theorem insert_sorted {α : Type} {r : α → α → Prop} (tr : ∀ x y z, r x y → r y z → r x z) {so : List α} (hs : so.Pairwise r) {x : α} {f : Nat} (hf : f ≤ so.length) (hhi : ∀ j (h : j < so.length), f ≤ j → r x so[j]) (hlo : ∀ (h : 0 < f), r (so[f - 1]'(by omega)) x) : (so.take f ++ x :: so.drop f).Pairwise r := by
  have h1 : (so.take f).Pairwise r := hs.sublist (List.take_sublist _ _)
  have h2 : (so.drop f).Pairwise r := hs.sublist (List.drop_sublist _ _)
  have hx : ∀ y ∈ so.drop f, r x y := fun y hy => by
    obtain ⟨j, hj, rfl⟩ := List.mem_iff_getElem.mp hy
    rw [List.getElem_drop]
    exact hhi _ _ (Nat.le_add_right _ _)
  have hy : ∀ y ∈ so.take f, r y x := fun y hy => by
    obtain ⟨j, hj, rfl⟩ := List.mem_iff_getElem.mp hy
    rw [List.getElem_take]
    rw [List.length_take] at hj
    have hpos : 0 < f := by omega
    have hj' : j < so.length := by omega
    by_cases e : j = f - 1
    · subst e; exact hlo hpos
    · have := List.pairwise_iff_getElem.mp hs j (f - 1) hj' (by omega) (by omega)
      exact tr _ _ _ this (hlo hpos)
  refine List.pairwise_append.mpr ⟨h1, List.pairwise_cons.mpr ⟨hx, h2⟩, fun a ha b hb => ?_⟩
  rcases List.mem_cons.mp hb with rfl | hb
  · exact hy a ha
  · exact tr _ _ _ (hy a ha) (hx b hb)

/-- a path's key -/
noncomputable def keyOf (n : Nat) (mark p : List Nat) : Str := S (enc (codes n) (p ++ mark))
noncomputable def rowD (n : Nat) (mark p : List Nat) : D := rowK (keyOf n mark p) (S p)

theorem c_sorted (hf : 9 ≤ cx.fuel) (ps : List (List Nat)) (n : Nat) (hn : n ≤ 4) (mark : List Nat) (way : Int) (hw : way ≠ 0) (hpl : ∀ p ∈ ps, p.length ≤ 100) (hml : mark.length ≤ 10) (hl : ps.length ≤ 100) (hkey : ∀ p ∈ ps, ∀ q ∈ ps, keyOf n mark p = keyOf n mark q → p = q) (hnd : ps.Nodup)
    (z : ∀ so : List (List Nat), so.Perm ps → so.Pairwise (fun p q => sLt (keyOf n mark p) (keyOf n mark q)) → Ψ (pathsD so)) : JC prog w B cx (.ref 289) [pathsD ps, .int n, .str (S mark), .int way] Ψ := by
  refine JC.fn (f := 289) ["paths", "number", "mark", "way"] ["rows"] (by omega) (by rfl) (by decide) rfl (fun vs h => ?_) (by kernel_rfl) (by decide) (by decide) (by decide) rfl (fun L => ?_)
  · obtain ⟨a, b, c, d, rfl⟩ := ar4 h
    exact rfl
  refine WSs.cons (WS.assign (WE.callG (a := 111) (WA.of (WL.cons ?_ fun _ => rfl)) rfl (by kernel_rfl) (by kernel_rfl)) ⟨.inl rfl, rfl⟩)
  walk_at "ev"
  refine c_tc (by show 5 ≤ cx.fuel - 1; omega) _ ?_
  refine WSs.cons (WS.assignNew (WN.list (WL.nil ⟨by decide, ?_⟩)) rfl rfl (fun _ e => nomatch e))
  refine WSs.for (WI.of (WE.name rfl (JI.list ?_)))
  rw [List.map_map]
  refine ⟨List (List Nat) × List (List Nat) × List (List Nat), fun ds s => ds = s.2.1.map (fun p => D.str (S p)) ∧ ps = s.1 ++ s.2.1 ∧ s.2.2.Perm s.1 ∧ s.2.2.Pairwise (fun p q => sLt (keyOf n mark p) (keyOf n mark q)), fun s => [("rows", .lst (s.2.2.map (rowD n mark))), ("test", testD way), ("paths", pathsD ps), ("number", .int n), ("mark", .str (S mark)), ("way", .int way)],
    ([], ps, []), ⟨rfl, rfl, .refl _, .nil⟩, ⟨rfl, rfl, rfl, rfl, rfl, rfl, trivial⟩, ?_, ?_⟩
  · rintro d r ⟨done, rest, so⟩ ⟨e1, e2, e3, e4⟩
    cases rest with
    | nil => cases e1
    | cons p rest =>
      have e1 : d :: r = D.str (S p) :: rest.map (fun p => D.str (S p)) := e1
      injection e1 with a b
      subst a b
      have e2 : ps = done ++ p :: rest := e2
      have e3 : so.Perm done := e3
      have e4 : so.Pairwise (fun p q => sLt (keyOf n mark p) (keyOf n mark q)) := e4
      have hp : p ∈ ps := by rw [e2]; simp
      have hsl : so.length ≤ 100 := by rw [e3.length_eq]; rw [e2, List.length_append] at hl; omega
      have hso : ∀ q ∈ so, q ∈ ps ∧ q ≠ p := fun q hq => by
        have hd : q ∈ done := e3.subset hq
        refine ⟨by rw [e2]; exact List.mem_append_left _ hd, fun e => ?_⟩
        rw [e2] at hnd
        exact (List.nodup_append.mp hnd).2.2 q hd p (List.mem_cons_self ..) e
      have hne : ∀ q ∈ so, keyOf n mark q ≠ keyOf n mark p := fun q hq e => (hso q hq).2 (hkey q (hso q hq).1 p hp e)
      have hpm : (p ++ mark).length ≤ 110 := by rw [List.length_append]; have := hpl p hp; omega
      have hget : ∀ j, j < so.length → (so.map (rowD n mark))[j]? = some (rowK (keyOf n mark (so.getD j [])) (S (so.getD j []))) := fun j hj => by
        rw [List.getElem?_map, List.getElem?_eq_getElem hj]
        simp [List.getD, List.getElem?_eq_getElem hj, rowD]
      have hgm : ∀ j (hj : j < so.length), so.getD j [] = so[j] := fun j hj => by simp [List.getD, List.getElem?_eq_getElem hj]
      refine WT.name ⟨.inl rfl, rfl⟩ ?_
      refine WSs.cons (WS.assign (WE.tuple (WL.cons ?_ fun _ => rfl)) ⟨.inl rfl, rfl⟩)
      refine WE.callG (a := 210) (WA.of (WL.cons ?_ fun _ => rfl)) rfl (by kernel_rfl) (by kernel_rfl)
      refine WE.callG (a := 277) (WA.of (WL.cons (WE.name rfl (WL.cons ?_ fun _ => rfl)) fun _ => rfl)) rfl (by kernel_rfl) (by kernel_rfl)
      walk_at "ev"
      · rw [S_length, S_length, sizeLine_eq]; rw [List.length_append] at hpm; omega
      rw [S_append]
      refine c_hand (by show 3 ≤ cx.fuel - 1; omega) n hn (p ++ mark) (by omega) (WL.nil (c_qn (by show 5 ≤ cx.fuel - 1; omega) _ ?_))
      walk_at "ev"
      refine WSs.cons (WS.assign ?_ ⟨.inl rfl, rfl⟩)
      walk_at "ev"
      · rw [List.length_map]; show so.length < _; omega
      rw [List.length_map]
      -- the place
      refine WSs.whileC (σ := Nat) (fun m f => m = f ∧ f ≤ so.length ∧ ∀ j (h : j < so.length), f ≤ j → sLt (keyOf n mark p) (keyOf n mark so[j])) (fun f => [("place", .int f), ("row", rowD n mark p), ("path", .str (S p)), ("rows", .lst (so.map (rowD n mark))), ("test", testD way), ("paths", pathsD ps), ("number", .int n), ("mark", .str (S mark)), ("way", .int way)]) so.length so.length ⟨rfl, Nat.le_refl _, fun j h h' => absurd h (Nat.not_lt.mpr h')⟩ ⟨rfl, rfl, rfl, rfl, rfl, rfl, rfl, rfl, rfl, trivial⟩
        Nat (fun f => f ≤ so.length ∧ (∀ j (h : j < so.length), f ≤ j → sLt (keyOf n mark p) (keyOf n mark so[j])) ∧ ∀ (h : 0 < f) (h' : f - 1 < so.length), sLt (keyOf n mark so[f - 1]) (keyOf n mark p)) (fun f => [("place", .int f), ("row", rowD n mark p), ("path", .str (S p)), ("rows", .lst (so.map (rowD n mark))), ("test", testD way), ("paths", pathsD ps), ("number", .int n), ("mark", .str (S mark)), ("way", .int way)]) ?_ ?_
      · rintro m f ⟨rfl, f1, f2⟩
        refine WB.and (WB.compare (WV.of ?_))
        walk_at "ev"
        by_cases m0 : 0 < m
        · refine iteT (decide_eq_true (by omega)) ?_
          have hm : ((m : Int) - 1).toNat = m - 1 := by omega
          have hmlt : m - 1 < so.length := by omega
          refine WB.compare (WV.of (WE.meth (pl := ?pl1) (WE.name rfl ⟨111, _, 108, rfl, rfl, by kernel_rfl, by kernel_rfl, by kernel_rfl, by kernel_rfl, WA.of (WL.cons (WE.name rfl (WL.cons ?_ fun _ => rfl)) fun _ => rfl)⟩) ?he1))
          case he1 => rfl
          walk_at "ev"
          refine JG.lst (by omega) (by rw [hm]; exact hget _ hmlt) (by omega) (WL.nil (c_compare (by show 5 ≤ cx.fuel - 1; omega) way _ _ _ _ ?_))
          walk_at "ev"
          rw [cmp_back hw, hgm _ hmlt]
          by_cases hlt : sLt (keyOf n mark p) (keyOf n mark so[m - 1])
          · refine iteT (decide_eq_true hlt) ?_
            refine WSs.cons (WS.aug rfl (WE.int (J2.isub ?_)) rfl)
            refine WSs.nil ⟨m - 1, m - 1, by omega, ⟨rfl, by omega, fun j hj hle => ?_⟩, ⟨?_, rfl, rfl, rfl, rfl, rfl, rfl, rfl, rfl, trivial⟩⟩
            · by_cases e : j = m - 1
              · subst e; exact hlt
              · exact f2 j hj (by omega)
            · have : ((m : Int) - 1) = ((m - 1 : Nat) : Int) := by omega
              rw [this]; rfl
          · refine iteF (by simpa using hlt) ⟨m, ⟨f1, f2, fun _ h' => ?_⟩, ⟨rfl, rfl, rfl, rfl, rfl, rfl, rfl, rfl, rfl, trivial⟩⟩
            exact (sLt_tot (hne _ (List.getElem_mem h'))).resolve_right hlt
        · refine iteF (by simpa using m0) (iteF (by decide) ⟨m, ⟨f1, f2, fun h => absurd h m0⟩, ⟨rfl, rfl, rfl, rfl, rfl, rfl, rfl, rfl, rfl, trivial⟩⟩)
      · rintro f ⟨f1, f2, f3⟩
        refine WSs.cut Unit (fun _ => True) (fun _ => [("place", .int f), ("row", rowD n mark p), ("rows", .lst (so.map (rowD n mark))), ("test", testD way), ("paths", pathsD ps), ("number", .int n), ("mark", .str (S mark)), ("way", .int way)]) (WS.if (WB.or (WB.compare (WV.of ?_)))) fun _ _ => ?_
        · refine WE.meth (pl := ?pl1) (WE.name rfl ⟨111, _, 108, rfl, rfl, by kernel_rfl, by kernel_rfl, by kernel_rfl, by kernel_rfl, WA.of (WL.cons (WE.name rfl (WL.cons (WE.name rfl (WL.nil (c_compare (by show 5 ≤ cx.fuel - 1; omega) way _ _ _ _ ?_))) fun _ => rfl)) fun _ => rfl)⟩) ?he1
          case he1 => rfl
          walk_at "ev"
          have hself : cmpI way (keyOf n mark p) (keyOf n mark p) = 0 := by unfold cmpI; rw [if_neg (sLt_irrefl _), if_neg (sLt_irrefl _)]
          rw [hself]
          refine iteF (by decide) ?_
          refine WB.and (WB.compare (WV.of ?_))
          walk_at "ev"
          by_cases m0 : 0 < f
          · refine iteT (decide_eq_true (by omega)) ?_
            have hm : ((f : Int) - 1).toNat = f - 1 := by omega
            have hmlt : f - 1 < so.length := by omega
            refine WB.compare (WV.of (WE.meth (pl := ?pl2) (WE.name rfl ⟨111, _, 108, rfl, rfl, by kernel_rfl, by kernel_rfl, by kernel_rfl, by kernel_rfl, WA.of (WL.cons (WE.name rfl (WL.cons ?_ fun _ => rfl)) fun _ => rfl)⟩) ?he2))
            case he2 => rfl
            walk_at "ev"
            refine JG.lst (by omega) (by rw [hm]; exact hget _ hmlt) (by omega) (WL.nil (c_compare (by show 5 ≤ cx.fuel - 1; omega) way _ _ _ _ ?_))
            walk_at "ev"
            have hgt := f3 m0 hmlt
            have hc : cmpI way (keyOf n mark p) (keyOf n mark (so.getD (f - 1) [])) = way := by
              rw [hgm _ hmlt]; unfold cmpI
              rw [if_neg fun h => sLt_irrefl _ (sLt_trans h hgt), if_pos hgt]
            rw [hc]
            refine iteF (by simp) ?_
            exact WSs.nil ⟨(), trivial, ⟨rfl, rfl, rfl, rfl, rfl, rfl, rfl, rfl, trivial⟩⟩
          · refine iteF (by simpa using m0) (iteF (by decide) ?_)
            exact WSs.nil ⟨(), trivial, ⟨rfl, rfl, rfl, rfl, rfl, rfl, rfl, rfl, trivial⟩⟩
        · refine WSs.cons (WS.insert rfl ?_ ?_)
          · rw [List.length_map]; omega
          refine WL.cons (WE.name rfl (WL.cons (WE.name rfl (WL.nil ⟨_, _, rfl, by omega, ?_, ?_⟩)) fun _ => rfl)) fun _ => rfl
          · rw [List.length_map, Int.toNat_natCast]; exact f1
          · refine WSs.nil ⟨(done ++ [p], rest, so.take f ++ p :: so.drop f), ⟨rfl, by rw [e2]; simp, ?_, ?_⟩, ⟨?_, rfl, rfl, rfl, rfl, rfl, trivial⟩⟩
            · refine List.Perm.trans List.perm_middle ?_
              rw [List.take_append_drop]
              exact (List.Perm.cons p e3).trans (List.perm_append_comm (l₁ := [p]) (l₂ := done))
            · exact insert_sorted (r := fun p q => sLt (keyOf n mark p) (keyOf n mark q)) (fun _ _ _ => sLt_trans) e4 f1 f2 fun h => f3 h (by omega)
            · show some (D.lst _) = some (D.lst ((so.take f ++ p :: so.drop f).map (rowD n mark)))
              rw [Int.toNat_natCast, List.map_append, List.map_cons, List.map_take, List.map_drop]
  · rintro ⟨done, rest, so⟩ ⟨e1, e2, e3, e4⟩
    have : rest = [] := by simpa using e1.symm
    subst this
    have e2 : ps = done := by simpa using e2
    subst e2
    have e3 : so.Perm ps := e3
    have e4 : so.Pairwise (fun p q => sLt (keyOf n mark p) (keyOf n mark q)) := e4
    refine WSs.cons (WS.freeze (t := "rows") rfl (WS.ret (WE.comp [] [] rfl (WC.of (WV.of (WE.name rfl ⟨so.map (rowD n mark), .inl rfl, fun d => match d with | .tup (_ :: b :: _) => b | d => d, ⟨?_, fun C d hd => ?_⟩, ?_⟩))) rfl (by decide) (by decide) rfl Free.nil)))
    · rw [List.length_map, e3.length_eq]; omega
    · obtain ⟨p, _, rfl⟩ := List.mem_map.mp hd
      walk_at "ev"
      exact JG.tup (d := .str (S p)) (by decide) rfl (by decide) rfl
    · refine ⟨_, rfl, ?_⟩
      rw [List.map_map]
      have := z so e3 e4
      unfold pathsD at this
      rw [List.map_map] at this
      exact this
end
end

section
section
variable {prog : Program} {w : World} {B : Base (K0.heap_1 w.params)}

noncomputable def walkF (ps : List (List Nat)) (mark : List Nat) (f : List Nat → List (List Nat)) (path st : List Nat) : List (List Nat) := if st = mark then [path] else if path ++ st ∈ ps then f (path ++ st) else []
noncomputable def walkN (ps plan : List (List Nat)) (mark : List Nat) : Nat → List Nat → List (List Nat)
  | 0, _ => []
  | n + 1, path => plan.flatMap (walkF ps mark (walkN ps plan mark n) path)

theorem c_walk (ps plan : List (List Nat)) (mark : List Nat) (hpl : ∀ p ∈ ps, p.length ≤ 100) (hst : ∀ st ∈ plan, st.length ≤ 10 ∧ (st ≠ mark → st ≠ [])) (hb : ∀ n, ∀ p ∈ ps, (walkN ps plan mark n p).length ≤ 100) :
    ∀ (n : Nat) (cx : Cx) (Ψ : D → Prop) (path : List Nat), n + 2 ≤ cx.fuel → path ∈ ps → (∀ q ∈ ps, q.length < path.length + n) → Ψ (pathsD (walkN ps plan mark n path)) → JC prog w B cx (.ref 296) [pathsD ps, .str (S path), pathsD plan, .str (S mark)] Ψ := by
  intro n
  induction n with
  | zero => intro cx Ψ path hf hp hq z; exact absurd (hq path hp) (by omega)
  | succ n ih =>
    intro cx Ψ path hf hp hq z
    refine JC.fn (f := 296) ["paths", "path", "plan", "mark"] ["walk"] (by omega) (by rfl) (by decide) rfl (fun vs h => ?_) (by kernel_rfl) (by decide) (by decide) (by decide) rfl (fun L => ?_)
    · obtain ⟨a, b, c, d, rfl⟩ := ar4 h
      exact rfl
    have htot : (plan.flatMap (walkF ps mark (walkN ps plan mark n) path)).length ≤ 100 := hb (n + 1) path hp
    refine WSs.cons (WS.assignNew (WN.list (WL.nil ⟨by decide, ?_⟩)) rfl rfl (fun _ e => nomatch e))
    refine WSs.for (WI.of (WE.name rfl (JI.list ?_)))
    rw [List.map_map]
    refine ⟨List (List Nat) × List (List Nat), fun ds s => ds = s.2.map (fun p => D.str (S p)) ∧ plan = s.1 ++ s.2, fun s => [("walk", pathsD (s.1.flatMap (walkF ps mark (walkN ps plan mark n) path))), ("paths", pathsD ps), ("path", .str (S path)), ("plan", pathsD plan), ("mark", .str (S mark))], ([], plan), ⟨rfl, rfl⟩, ⟨rfl, rfl, rfl, rfl, rfl, trivial⟩, ?_, ?_⟩
    · rintro d r ⟨done, rest⟩ ⟨e1, e2⟩
      cases rest with
      | nil => cases e1
      | cons st rest =>
        have e1 : d :: r = D.str (S st) :: rest.map (fun p => D.str (S p)) := e1
        injection e1 with a b
        subst a b
        have e2 : plan = done ++ st :: rest := e2
        have hs : st ∈ plan := by rw [e2]; simp
        obtain ⟨hs1, hs2⟩ := hst st hs
        have hlen : (done.flatMap (walkF ps mark (walkN ps plan mark n) path)).length + (walkF ps mark (walkN ps plan mark n) path st).length ≤ 100 := by
          have key : ∀ f : List Nat → List (List Nat), (plan.flatMap f).length ≤ 100 → (done.flatMap f).length + (f st).length ≤ 100 := fun f h => by
            rw [e2, List.flatMap_append, List.length_append, List.flatMap_cons, List.length_append] at h
            omega
          exact key _ htot
        have fin : ∀ ρ', Has ρ' [(("walk" : Str), pathsD (done.flatMap (walkF ps mark (walkN ps plan mark n) path) ++ walkF ps mark (walkN ps plan mark n) path st)), ("paths", pathsD ps), ("path", .str (S path)), ("plan", pathsD plan), ("mark", .str (S mark))] →
            ∃ s' : List (List Nat) × List (List Nat), (rest.map (fun p => D.str (S p)) = s'.2.map (fun p => D.str (S p)) ∧ plan = s'.1 ++ s'.2) ∧ Has ρ' [(("walk" : Str), pathsD (s'.1.flatMap (walkF ps mark (walkN ps plan mark n) path))), ("paths", pathsD ps), ("path", .str (S path)), ("plan", pathsD plan), ("mark", .str (S mark))] := fun ρ' hh => by
          refine ⟨(done ++ [st], rest), ⟨rfl, by rw [e2]; simp⟩, ?_⟩
          have : (done ++ [st]).flatMap (walkF ps mark (walkN ps plan mark n) path) = done.flatMap (walkF ps mark (walkN ps plan mark n) path) ++ walkF ps mark (walkN ps plan mark n) path st := by
            rw [List.flatMap_append, List.flatMap_cons, List.flatMap_nil, List.append_nil]
          show Has ρ' [(("walk" : Str), pathsD ((done ++ [st]).flatMap (walkF ps mark (walkN ps plan mark n) path))), ("paths", pathsD ps), ("path", .str (S path)), ("plan", pathsD plan), ("mark", .str (S mark))]
          rw [this]; exact hh
        have pD : ∀ a b : List (List Nat), D.lst ((a.map S).map .str ++ (b.map S).map .str) = pathsD (a ++ b) := fun a b => by unfold pathsD; rw [List.map_append, List.map_append]
        generalize hdn : done.flatMap (walkF ps mark (walkN ps plan mark n) path) = dn at hlen fin
        refine WT.name ⟨.inl rfl, rfl⟩ ?_
        refine WSs.weaken (ρ' := [("step", .str (S st)), ("walk", pathsD dn), ("paths", pathsD ps), ("path", .str (S path)), ("plan", pathsD plan), ("mark", .str (S mark))]) (Has.look (by rw [← hdn]; exact ⟨rfl, rfl, rfl, rfl, rfl, rfl, trivial⟩)) ?_
        refine WSs.cons (WS.if ?_)
        walk_at "ev"
        rw [S_beq]
        by_cases hm : st = mark
        · refine iteT (decide_eq_true hm) ?_
          refine WSs.cons (WS.append rfl ?_ (WE.name rfl ?_))
          · rw [List.length_map, List.length_map, sizeLine_eq]; omega
          refine WSs.nil (WSs.nil (fin _ ⟨?_, rfl, rfl, rfl, rfl, trivial⟩))
          show some (D.lst ((dn.map S).map .str ++ [D.str (S path)])) = some (pathsD (dn ++ walkF ps mark (walkN ps plan mark n) path st))
          have : walkF ps mark (walkN ps plan mark n) path st = [path] := by unfold walkF; rw [if_pos hm]
          rw [this, ← pD]; rfl
        · refine iteF (by simpa using hm) ?_
          refine WSs.cons (WS.if (WB.compare (WV.of ?_)))
          have hpl' := hpl path hp
          walk_at "ev"
          · rw [S_length, S_length, sizeLine_eq]; omega
          rw [S_append]
          refine J2.inL (ss := ps.map S) ⟨_, rfl, ?_⟩
          rw [contains_S]
          by_cases hin : path ++ st ∈ ps
          · refine iteT (decide_eq_true hin) ?_
            have hw : walkF ps mark (walkN ps plan mark n) path st = walkN ps plan mark n (path ++ st) := by unfold walkF; rw [if_neg hm, if_pos hin]
            refine WSs.cons (WS.extend rfl (WE.callG (a := 296) (WA.of (WL.cons (WE.name rfl (WL.cons ?_ fun _ => rfl)) fun _ => rfl)) rfl (by kernel_rfl) (by kernel_rfl)))
            walk_at "ev"
            · rw [S_length, S_length, sizeLine_eq]; omega
            rw [S_append]
            have hl1 : 1 ≤ st.length := List.length_pos_iff.mpr (hs2 hm)
            refine ih _ _ (path ++ st) (by show n + 2 ≤ cx.fuel - 1; omega) hin (fun q hq' => by have := hq q hq'; rw [List.length_append]; omega) ⟨_, rfl, ?_, ?_⟩
            · rw [List.length_map, List.length_map, List.length_map, List.length_map]; rw [hw] at hlen; omega
            · refine WSs.nil (WSs.nil (WSs.nil (fin _ ⟨?_, rfl, rfl, rfl, rfl, trivial⟩)))
              show some (D.lst ((dn.map S).map .str ++ ((walkN ps plan mark n (path ++ st)).map S).map .str)) = some (pathsD (dn ++ walkF ps mark (walkN ps plan mark n) path st))
              rw [hw, pD]
          · refine iteF (by simpa using hin) ?_
            have hw : walkF ps mark (walkN ps plan mark n) path st = [] := by unfold walkF; rw [if_neg hm, if_neg hin]
            refine WSs.nil (WSs.nil (WSs.nil (fin _ ⟨?_, rfl, rfl, rfl, rfl, trivial⟩)))
            rw [hw, List.append_nil]; rfl
    · rintro ⟨done, rest⟩ ⟨e1, e2⟩
      have : rest = [] := by simpa using e1.symm
      subst this
      have e2 : plan = done := by simpa using e2
      subst e2
      exact WSs.cons (WS.retMut rfl ⟨_, rfl, z⟩)
end
end

section

/-! ## texts in order -/
theorem lt_left (l : List Nat) {a b : List Nat} (h : a < b) : l ++ a < l ++ b := by
  induction l with
  | nil => exact h
  | cons x l ih => exact List.cons_lt_cons_iff.mpr (.inr ⟨rfl, ih⟩)
theorem lt_sep : ∀ {a b : List Nat}, a < b → ¬ a <+: b → ∀ u v, a ++ u < b ++ v
  | [], _, _, hp, _, _ => absurd (List.nil_prefix) hp
  | x :: a, [], h, _, _, _ => absurd h (List.not_lt_nil _)
  | x :: a, y :: b, h, hp, u, v => by
    rcases List.cons_lt_cons_iff.mp h with h2 | ⟨e, h2⟩
    · exact List.cons_lt_cons_iff.mpr (.inl h2)
    · subst e
      have hq : ¬ a <+: b := fun q => hp (List.cons_prefix_cons.mpr ⟨rfl, q⟩)
      have := lt_sep h2 hq u v
      show x :: (a ++ u) < x :: (b ++ v)
      exact List.cons_lt_cons_iff.mpr (.inr ⟨rfl, this⟩)
theorem nil_lt {b : List Nat} (h : b ≠ []) : [] < b := by
  cases b with
  | nil => exact absurd rfl h
  | cons x b => exact List.nil_lt_cons _ _

/-- two signs, and what may follow them -/
noncomputable def PlanLt (n : Nat) (mark a b : List Nat) : Prop := ∀ u v, (a = mark → u = []) → (b = mark → v = []) → enc (codes n) a ++ u < enc (codes n) b ++ v
noncomputable def pfree (a b : List Nat) : Bool := !a.isPrefixOf b && !b.isPrefixOf a
theorem pfree_not {a b : List Nat} (h : pfree a b = true) : ¬ a <+: b ∧ ¬ b <+: a := by
  unfold pfree at h
  rw [Bool.and_eq_true, Bool.not_eq_true', Bool.not_eq_true'] at h
  exact ⟨fun q => (by rw [List.isPrefixOf_iff_prefix.mpr q] at h; cases h.1), fun q => (by rw [List.isPrefixOf_iff_prefix.mpr q] at h; cases h.2)⟩

/-- the codes of the three signs, told apart from their fronts -/
noncomputable def Good (n : Nat) (blanks mark : List Nat) : Bool :=
  pfree (enc (codes n) [9]) (enc (codes n) blanks) && (mark.isEmpty || (pfree (enc (codes n) [9]) (enc (codes n) mark) && pfree (enc (codes n) blanks) (enc (codes n) mark)))
noncomputable def allBlanks : List (List Nat) := [[32], [32, 32, 32], [32, 9], [32, 32, 9]]
noncomputable def allMarks : List (List Nat) := [[], [10], [13], [33], [34], [38], [60], [62]]
theorem good_all : (List.range 5).all (fun n => allBlanks.all fun b => allMarks.all fun m => Good n b m) = true := by decide +kernel

theorem plan_lt {n : Nat} {blanks mark : List Nat} (hg : Good n blanks mark = true) (hb : enc (codes n) blanks ≠ []) {a b : List Nat} (ha : a ∈ [[9], blanks, mark]) (hb' : b ∈ [[9], blanks, mark]) (h : sLt (S (enc (codes n) a)) (S (enc (codes n) b))) : PlanLt n mark a b := by
  have h : enc (codes n) a < enc (codes n) b := h
  unfold Good at hg
  rw [Bool.and_eq_true] at hg
  obtain ⟨g1, g2⟩ := hg
  have g1 := pfree_not g1
  have ne : a ≠ b := fun q => by subst q; exact List.lt_irrefl _ h
  have ht : enc (codes n) [9] ≠ [] := by
    intro q
    have := g1.1
    rw [q] at this
    exact this List.nil_prefix
  intro u v hu hv
  by_cases hm : mark = []
  · subst hm
    by_cases hA : a = []
    · subst hA
      rw [hu rfl]
      have : b ≠ [] := fun q => ne q.symm
      have : enc (codes n) b ≠ [] := by
        simp only [List.mem_cons, List.not_mem_nil, or_false] at hb'
        rcases hb' with rfl | rfl | rfl
        · exact ht
        · exact hb
        · exact absurd rfl this
      refine nil_lt ?_
      intro q
      exact this (List.append_eq_nil_iff.mp q).1
    · have hB : b ≠ [] := fun q => by subst q; exact absurd h (List.not_lt_nil _)
      refine lt_sep h ?_ u v
      simp only [List.mem_cons, List.not_mem_nil, or_false] at ha hb'
      rcases ha with rfl | rfl | rfl
      · rcases hb' with rfl | rfl | rfl
        · exact absurd rfl ne
        · exact g1.1
        · exact absurd rfl hB
      · rcases hb' with rfl | rfl | rfl
        · exact g1.2
        · exact absurd rfl ne
        · exact absurd rfl hB
      · exact absurd rfl hA
  · have g2 : (pfree (enc (codes n) [9]) (enc (codes n) mark) && pfree (enc (codes n) blanks) (enc (codes n) mark)) = true := by
      rcases Bool.or_eq_true_iff.mp g2 with q | q
      · exact absurd (List.isEmpty_iff.mp q) hm
      · exact q
    rw [Bool.and_eq_true] at g2
    have g3 := pfree_not g2.1
    have g4 := pfree_not g2.2
    refine lt_sep h ?_ u v
    simp only [List.mem_cons, List.not_mem_nil, or_false] at ha hb'
    rcases ha with rfl | rfl | rfl <;> rcases hb' with rfl | rfl | rfl <;> first | exact absurd rfl ne | exact g1.1 | exact g1.2 | exact g3.1 | exact g3.2 | exact g4.1 | exact g4.2

/-! ## the walk -/
section
variable {ps plan : List (List Nat)} {mark : List Nat}
theorem walk_ext : ∀ (n : Nat) (path q : List Nat), q ∈ walkN ps plan mark n path → ∃ x, q = path ++ x
  | 0, _, _, h => nomatch h
  | n + 1, path, q, h => by
    obtain ⟨st, _, hq⟩ := List.mem_flatMap.mp h
    unfold walkF at hq
    split at hq
    · rw [List.mem_singleton.mp hq]; exact ⟨[], by simp⟩
    · split at hq
      · obtain ⟨x, e⟩ := walk_ext n _ q hq
        exact ⟨st ++ x, by rw [e, List.append_assoc]⟩
      · cases hq
theorem walkF_ext {n : Nat} {path st q : List Nat} (h : q ∈ walkF ps mark (walkN ps plan mark n) path st) : (st = mark ∧ q = path) ∨ (st ≠ mark ∧ path ++ st ∈ ps ∧ q ∈ walkN ps plan mark n (path ++ st) ∧ ∃ x, q = path ++ (st ++ x)) := by
  unfold walkF at h
  split at h
  · rename_i e; exact .inl ⟨e, List.mem_singleton.mp h⟩
  · rename_i e
    split at h
    · rename_i e'
      obtain ⟨x, ex⟩ := walk_ext n _ q h
      exact .inr ⟨e, e', h, x, by rw [ex, List.append_assoc]⟩
    · cases h
theorem walk_sub : ∀ (n : Nat) (path : List Nat), path ∈ ps → ∀ q ∈ walkN ps plan mark n path, q ∈ ps
  | 0, _, _, _, h => nomatch h
  | n + 1, path, hp, q, h => by
    obtain ⟨st, _, hq⟩ := List.mem_flatMap.mp h
    rcases walkF_ext hq with ⟨_, rfl⟩ | ⟨_, h1, h2, _⟩
    · exact hp
    · exact walk_sub n _ h1 q h2
theorem walk_sorted (n0 : Nat) (hplan : plan.Pairwise (PlanLt n0 mark)) : ∀ (n : Nat) (path : List Nat), (walkN ps plan mark n path).Pairwise fun p q => sLt (keyOf n0 mark p) (keyOf n0 mark q)
  | 0, _ => .nil
  | n + 1, path => by
    refine List.pairwise_flatMap.mpr ⟨fun st _ => ?_, hplan.imp fun {a b} hab x hx y hy => ?_⟩
    · unfold walkF
      split
      · exact List.pairwise_singleton _ _
      · split
        · exact walk_sorted n0 hplan n _
        · exact .nil
    · show enc (codes n0) (x ++ mark) < enc (codes n0) (y ++ mark)
      have ex : ∃ u, enc (codes n0) (x ++ mark) = enc (codes n0) path ++ (enc (codes n0) a ++ u) ∧ (a = mark → u = []) := by
        rcases walkF_ext hx with ⟨rfl, rfl⟩ | ⟨h1, _, _, z, rfl⟩
        · exact ⟨[], by rw [enc_append, List.append_nil], fun _ => rfl⟩
        · exact ⟨enc (codes n0) z ++ enc (codes n0) mark, by rw [enc_append, enc_append, enc_append]; simp, fun e => absurd e h1⟩
      have ey : ∃ v, enc (codes n0) (y ++ mark) = enc (codes n0) path ++ (enc (codes n0) b ++ v) ∧ (b = mark → v = []) := by
        rcases walkF_ext hy with ⟨rfl, rfl⟩ | ⟨h1, _, _, z, rfl⟩
        · exact ⟨[], by rw [enc_append, List.append_nil], fun _ => rfl⟩
        · exact ⟨enc (codes n0) z ++ enc (codes n0) mark, by rw [enc_append, enc_append, enc_append]; simp, fun e => absurd e h1⟩
      obtain ⟨u, e1, hu⟩ := ex
      obtain ⟨v, e2, hv⟩ := ey
      rw [e1, e2]
      exact lt_left _ (hab u v hu hv)
theorem walk_self (hm : mark ∈ plan) (n : Nat) (path : List Nat) : path ∈ walkN ps plan mark (n + 1) path :=
  List.mem_flatMap.mpr ⟨mark, hm, by unfold walkF; rw [if_pos rfl]; exact List.mem_singleton.mpr rfl⟩
theorem walk_step (hm : mark ∈ plan) {e : List Nat} (he : e ∈ plan) (hne : e ≠ mark) : ∀ (n : Nat) (path q : List Nat), q ∈ walkN ps plan mark n path → q ++ e ∈ ps → q ++ e ∈ walkN ps plan mark (n + 1) path
  | 0, _, _, h, _ => nomatch h
  | n + 1, path, q, h, hq => by
    obtain ⟨st, hst, h⟩ := List.mem_flatMap.mp h
    rcases walkF_ext h with ⟨_, rfl⟩ | ⟨h1, h2, h3, _⟩
    · exact List.mem_flatMap.mpr ⟨e, he, by unfold walkF; rw [if_neg hne, if_pos hq]; exact walk_self hm n _⟩
    · exact List.mem_flatMap.mpr ⟨st, hst, by unfold walkF; rw [if_neg h1, if_pos h2]; exact walk_step hm he hne n _ q h3 hq⟩
theorem walk_more : ∀ (n : Nat) (path q : List Nat), q ∈ walkN ps plan mark n path → q ∈ walkN ps plan mark (n + 1) path
  | 0, _, _, h => nomatch h
  | n + 1, path, q, h => by
    obtain ⟨st, hst, h⟩ := List.mem_flatMap.mp h
    refine List.mem_flatMap.mpr ⟨st, hst, ?_⟩
    rcases walkF_ext h with ⟨h1, rfl⟩ | ⟨h1, h2, h3, _⟩
    · unfold walkF; rw [if_pos h1]; exact List.mem_singleton.mpr rfl
    · unfold walkF; rw [if_neg h1, if_pos h2]; exact walk_more n _ q h3
theorem walk_mono {n m : Nat} (h : n ≤ m) {path q : List Nat} (hq : q ∈ walkN ps plan mark n path) : q ∈ walkN ps plan mark m path := by
  induction h with
  | refl => exact hq
  | step _ ih => exact walk_more _ _ _ ih
/-- the walk misses no path -/
theorem walk_all {blanks first : List Nat} (hm : mark ∈ plan) (ht : [9] ∈ plan) (hb : blanks ∈ plan) (hmt : [9] ≠ mark) (hmb : blanks ≠ mark) : ∀ {ps' : List (List Nat)}, Tree blanks first ps' → (∀ p ∈ ps', p ∈ ps) → ∀ q ∈ ps', q ∈ walkN ps plan mark ps'.length first
  | _, .root, _, q, hq => by rw [List.mem_singleton.mp hq]; exact walk_self hm 0 _
  | _, .grow (ps := ps') (p := p) (e := e) t hp he hn, hsub, q, hq => by
    rw [List.length_append, List.length_singleton]
    have ih := walk_all hm ht hb hmt hmb t fun p hp => hsub p (List.mem_append_left _ hp)
    rcases List.mem_append.mp hq with hq | hq
    · exact walk_more _ _ _ (ih q hq)
    · rw [List.mem_singleton.mp hq]
      have hin := hsub (p ++ e) (List.mem_append_right _ (List.mem_singleton.mpr rfl))
      rcases he with rfl | rfl
      · exact walk_step hm ht hmt _ _ _ (ih p hp) hin
      · exact walk_step hm hb hmb _ _ _ (ih p hp) hin
end

theorem sorted_unique {α : Type} {r : α → α → Prop} (ir : ∀ x, ¬ r x x) (tr : ∀ x y z, r x y → r y z → r x z) : ∀ {l m : List α}, l.Pairwise r → m.Pairwise r → (∀ x, x ∈ l ↔ x ∈ m) → l = m
  | [], [], _, _, _ => rfl
  | [], y :: m, _, _, h => nomatch (h y).mpr (List.mem_cons_self ..)
  | x :: l, [], _, _, h => nomatch (h x).mp (List.mem_cons_self ..)
  | x :: l, y :: m, hl, hm, h => by
    obtain ⟨l1, l2⟩ := List.pairwise_cons.mp hl
    obtain ⟨m1, m2⟩ := List.pairwise_cons.mp hm
    have e : x = y := by
      rcases List.mem_cons.mp ((h x).mp (List.mem_cons_self ..)) with q | q
      · exact q
      · rcases List.mem_cons.mp ((h y).mpr (List.mem_cons_self ..)) with q' | q'
        · exact q'.symm
        · exact absurd (tr _ _ _ (l1 y q') (m1 x q)) (ir x)
    subst e
    congr 1
    refine sorted_unique ir tr l2 m2 fun z => ⟨fun hz => ?_, fun hz => ?_⟩
    · rcases List.mem_cons.mp ((h z).mp (List.mem_cons_of_mem _ hz)) with q | q
      · subst q; exact absurd (l1 z hz) (ir z)
      · exact q
    · rcases List.mem_cons.mp ((h z).mpr (List.mem_cons_of_mem _ hz)) with q | q
      · subst q; exact absurd (m1 z hz) (ir z)
      · exact q
theorem nodup_le {α : Type} : ∀ {l m : List α}, l.Nodup → (∀ x ∈ l, x ∈ m) → l.length ≤ m.length
  | [], _, _, _ => Nat.zero_le _
  | x :: l, m, h, hs => by
    obtain ⟨h1, h2⟩ := List.nodup_cons.mp h
    obtain ⟨a, b, rfl⟩ := List.append_of_mem (hs x (List.mem_cons_self ..))
    have := nodup_le (l := l) (m := a ++ b) h2 fun y hy => by
      rcases List.mem_append.mp (hs y (List.mem_cons_of_mem _ hy)) with q | q
      · exact List.mem_append_left _ q
      · rcases List.mem_cons.mp q with q | q
        · subst q; exact absurd hy h1
        · exact List.mem_append_right _ q
    rw [List.length_append] at this
    rw [List.length_cons, List.length_append, List.length_cons]
    omega
theorem sorted_nodup {α : Type} {r : α → α → Prop} (ir : ∀ x, ¬ r x x) {l : List α} (h : l.Pairwise r) : l.Nodup := h.imp (S := fun a b => a ≠ b) fun {a b} hab q => ir a (by subst q; exact hab)
end

section

/-! ## a path's branch, inside the walk -/
/-- the three signs in order: where the mark stands, and that one sign fronts no other -/
structure PlanOk (blanks mark : List Nat) (plan : List (List Nat)) (kind : Nat) : Prop where
  perm : plan.Perm [[9], blanks, mark]
  at_ : plan.findIdx? (· == mark) = some kind
  tb : ¬ [9] <+: blanks ∧ ¬ blanks <+: [9]
  tm : [9] ≠ mark
  bm : blanks ≠ mark
  bl : Blanks blanks

noncomputable def lessP (p q : List Nat) : Bool := lessB (ws p) (ws q)
structure Dec (ps plan : List (List Nat)) (mark : List Nat) (kind : Nat) (p : List Nat) (W L1 L2 : List (List Nat)) (m : Nat) : Prop where
  eq : W = L1 ++ walkN ps plan mark (m + 1) p ++ L2
  no : ∀ q ∈ L1 ++ L2, ¬ p <+: q
  fr : 0 < kind → ∀ q, L1.getLast? = some q → lessP p q = false
  bk : kind < 2 → ∀ q, L2.head? = some q → lessP p q = false

theorem plan_cases {blanks mark : List Nat} {plan : List (List Nat)} {kind : Nat} (h : PlanOk blanks mark plan kind) :
    ∃ s s', ((s = [9] ∧ s' = blanks) ∨ (s = blanks ∧ s' = [9])) ∧ s ≠ mark ∧ s' ≠ mark ∧ s ≠ s' ∧ ((kind = 0 ∧ plan = [mark, s, s']) ∨ (kind = 1 ∧ plan = [s, mark, s']) ∨ (kind = 2 ∧ plan = [s, s', mark])) := by
  have hne : [9] ≠ blanks := fun q => h.tb.1 (by rw [q]; exact List.prefix_refl _)
  have hlen := h.perm.length_eq
  match plan, hlen, h with
  | [a, b, c], _, h =>
    have hmem : ∀ x, x ∈ [a, b, c] ↔ x ∈ [[9], blanks, mark] := fun x => h.perm.mem_iff
    have hnd : [a, b, c].Nodup := h.perm.nodup_iff.mpr (by
      refine List.nodup_cons.mpr ⟨fun q => ?_, List.nodup_cons.mpr ⟨fun q => ?_, List.nodup_cons.mpr ⟨List.not_mem_nil, List.nodup_nil⟩⟩⟩
      · simp only [List.mem_cons, List.not_mem_nil, or_false] at q
        exact q.elim hne h.tm
      · exact h.bm (List.mem_singleton.mp q))
    have ha := (hmem a).mp (by simp)
    have hb := (hmem b).mp (by simp)
    have hc := (hmem c).mp (by simp)
    have n1 : a ≠ b := fun q => by subst q; simp at hnd
    have n2 : a ≠ c := fun q => by subst q; simp at hnd
    have n3 : b ≠ c := fun q => by subst q; simp at hnd
    have hat := h.at_
    simp only [List.mem_cons, List.not_mem_nil, or_false] at ha hb hc
    have t1 := h.tm; have t2 := h.bm
    by_cases ea : a = mark
    · subst ea
      have hk : kind = 0 := by simpa [List.findIdx?_cons] using hat.symm
      refine ⟨b, c, ?_, Ne.symm n1, Ne.symm n2, n3, .inl ⟨hk, rfl⟩⟩
      rcases hb with rfl | rfl | rfl
      · rcases hc with rfl | rfl | rfl
        · exact absurd rfl n3
        · exact .inl ⟨rfl, rfl⟩
        · exact absurd rfl n2
      · rcases hc with rfl | rfl | rfl
        · exact .inr ⟨rfl, rfl⟩
        · exact absurd rfl n3
        · exact absurd rfl n2
      · exact absurd rfl n1
    · by_cases eb : b = mark
      · subst eb
        have hk : kind = 1 := by
          have : (a == b) = false := by simpa using n1
          simpa [List.findIdx?_cons, this] using hat.symm
        refine ⟨a, c, ?_, n1, Ne.symm n3, n2, .inr (.inl ⟨hk, rfl⟩)⟩
        rcases ha with rfl | rfl | rfl
        · rcases hc with rfl | rfl | rfl
          · exact absurd rfl n2
          · exact .inl ⟨rfl, rfl⟩
          · exact absurd rfl n3
        · rcases hc with rfl | rfl | rfl
          · exact .inr ⟨rfl, rfl⟩
          · exact absurd rfl n2
          · exact absurd rfl n3
        · exact absurd rfl n1
      · have ec : c = mark := by
          have := (hmem mark).mpr (by simp)
          simp only [List.mem_cons, List.not_mem_nil, or_false] at this
          rcases this with q | q | q
          · exact absurd q.symm ea
          · exact absurd q.symm eb
          · exact q.symm
        subst ec
        have hk : kind = 2 := by
          have q1 : (a == c) = false := by simpa using n2
          have q2 : (b == c) = false := by simpa using n3
          simpa [List.findIdx?_cons, q1, q2] using hat.symm
        refine ⟨a, b, ?_, n2, n3, n1, .inr (.inr ⟨hk, rfl⟩)⟩
        rcases ha with rfl | rfl | rfl
        · rcases hb with rfl | rfl | rfl
          · exact absurd rfl n1
          · exact .inl ⟨rfl, rfl⟩
          · exact absurd rfl eb
        · rcases hb with rfl | rfl | rfl
          · exact .inr ⟨rfl, rfl⟩
          · exact absurd rfl n1
          · exact absurd rfl eb
        · exact absurd rfl ea

section
variable {ps plan : List (List Nat)} {mark blanks : List Nat} {kind : Nat}
theorem walkF_mark (f : List Nat → List (List Nat)) (path : List Nat) : walkF ps mark f path mark = [path] := by unfold walkF; rw [if_pos rfl]
theorem walk_head (n : Nat) (path : List Nat) (s s' : List Nat) (hp : plan = [mark, s, s']) : (walkN ps plan mark (n + 1) path).head? = some path := by
  subst hp
  show ([mark, s, s'].flatMap _).head? = _
  rw [List.flatMap_cons, walkF_mark]; rfl
theorem walk_last (n : Nat) (path : List Nat) (s s' : List Nat) (hp : plan = [s, s', mark]) : (walkN ps plan mark (n + 1) path).getLast? = some path := by
  subst hp
  show ([s, s', mark].flatMap _).getLast? = _
  rw [List.flatMap_cons, List.flatMap_cons, List.flatMap_cons, List.flatMap_nil, walkF_mark, List.append_nil, ← List.append_assoc, List.getLast?_append]; rfl

/-- what stands beside a branch -/
theorem beside {n : Nat} {path s s' : List Nat} (hs : ((s = [9] ∧ s' = blanks) ∨ (s = blanks ∧ s' = [9]))) (hbl : Blanks blanks) (htb : ¬ [9] <+: blanks ∧ ¬ blanks <+: [9]) (hm : s ≠ mark) {p : List Nat} (hx : ∃ x, p = path ++ (s ++ x)) :
    (∀ q ∈ walkF ps mark (walkN ps plan mark n) path s', ¬ p <+: q) ∧ (¬ p <+: path) ∧ lessP p path = false ∧ lessP p (path ++ s') = false := by
  obtain ⟨x, rfl⟩ := hx
  have hsl : 1 ≤ s.length := by
    rcases hs with ⟨rfl, _⟩ | ⟨rfl, _⟩
    · exact Nat.le_of_ble_eq_true rfl
    · obtain ⟨k, hk, rfl | rfl⟩ := hbl <;> simp <;> omega
  have hlong : path.length < (path ++ (s ++ x)).length := by rw [List.length_append, List.length_append]; omega
  have hnp : ¬ path ++ (s ++ x) <+: path := fun q => absurd q.length_le (by omega)
  have sep : ∀ y, ¬ s ++ x <+: s' ++ y := fun y q => by
    rcases List.prefix_or_prefix_of_prefix ((List.prefix_append s x).trans q) (List.prefix_append s' y) with h | h
    · rcases hs with ⟨rfl, rfl⟩ | ⟨rfl, rfl⟩
      · exact htb.1 h
      · exact htb.2 h
    · rcases hs with ⟨rfl, rfl⟩ | ⟨rfl, rfl⟩
      · exact htb.2 h
      · exact htb.1 h
  refine ⟨fun q hq z => ?_, hnp, less_short _ _ (by omega), ?_⟩
  · rcases walkF_ext hq with ⟨_, rfl⟩ | ⟨_, _, _, y, rfl⟩
    · exact hnp z
    · exact sep y ((List.prefix_append_right_inj path).mp z)
  · have hb := less_branch path x blanks s s' hbl hs
    rw [List.append_assoc] at hb
    exact hb

theorem decompose (h : PlanOk blanks mark plan kind) : ∀ (n : Nat) (path p : List Nat), p ∈ walkN ps plan mark n path → ∃ m L1 L2, m + 1 ≤ n ∧ Dec ps plan mark kind p (walkN ps plan mark n path) L1 L2 m
  | 0, _, _, hp => nomatch hp
  | n + 1, path, p, hp => by
    obtain ⟨s, s', hs, hsm, hsm', hne, hk⟩ := plan_cases h
    have hs2 : ((s' = [9] ∧ s = blanks) ∨ (s' = blanks ∧ s = [9])) := hs.symm.imp (fun ⟨a, b⟩ => ⟨b, a⟩) (fun ⟨a, b⟩ => ⟨b, a⟩)
    -- the path itself
    by_cases hpp : p = path
    · subst hpp
      exact ⟨n, [], [], Nat.le_refl _, by simp, fun q hq => by simp at hq, fun _ q hq => by simp at hq, fun _ q hq => by simp at hq⟩
    have inS : ∀ t, p ∈ walkF ps mark (walkN ps plan mark n) path t → t ≠ mark ∧ path ++ t ∈ ps ∧ walkF ps mark (walkN ps plan mark n) path t = walkN ps plan mark n (path ++ t) ∧ p ∈ walkN ps plan mark n (path ++ t) ∧ ∃ x, p = path ++ (t ++ x) := fun t ht => by
      rcases walkF_ext ht with ⟨_, e⟩ | ⟨h1, h2, h3, hx⟩
      · exact absurd e hpp
      · exact ⟨h1, h2, by unfold walkF; rw [if_neg h1, if_pos h2], h3, hx⟩
    obtain ⟨t, ht, hpt⟩ := List.mem_flatMap.mp hp
    obtain ⟨t1, t2, t3, t4, hx⟩ := inS t hpt
    obtain ⟨m, L1, L2, hm, D⟩ := decompose h n (path ++ t) p t4
    have tt : t = s ∨ t = s' := by
      rcases hk with ⟨_, e⟩ | ⟨_, e⟩ | ⟨_, e⟩ <;> rw [e] at ht <;> simp only [List.mem_cons, List.not_mem_nil, or_false] at ht
      · rcases ht with q | q | q
        · exact absurd q t1
        · exact .inl q
        · exact .inr q
      · rcases ht with q | q | q
        · exact .inl q
        · exact absurd q t1
        · exact .inr q
      · rcases ht with q | q | q
        · exact .inl q
        · exact .inr q
        · exact absurd q t1
    -- what stands before and behind the branch t in this walk
    have glue : ∀ (F R : List (List Nat)), walkN ps plan mark (n + 1) path = F ++ walkN ps plan mark n (path ++ t) ++ R → (∀ q ∈ F ++ R, ¬ p <+: q) → (0 < kind → ∀ q, F.getLast? = some q → lessP p q = false) → (kind < 2 → ∀ q, R.head? = some q → lessP p q = false) →
        ∃ m L1 L2, m + 1 ≤ n + 1 ∧ Dec ps plan mark kind p (walkN ps plan mark (n + 1) path) L1 L2 m := fun F R he hno hf hr => by
      refine ⟨m, F ++ L1, L2 ++ R, by omega, ⟨?_, fun q hq => ?_, fun k0 q hq => ?_, fun k2 q hq => ?_⟩⟩
      · rw [he, D.eq]; simp
      · simp only [List.mem_append] at hq
        rcases hq with (q1 | q1) | (q1 | q1)
        · exact hno q (List.mem_append_left _ q1)
        · exact D.no q (List.mem_append_left _ q1)
        · exact D.no q (List.mem_append_right _ q1)
        · exact hno q (List.mem_append_right _ q1)
      · rw [List.getLast?_append] at hq
        cases e : L1.getLast? with
        | none => rw [e] at hq; exact hf k0 q hq
        | some y => rw [e] at hq; cases hq; exact D.fr k0 _ e
      · rw [List.head?_append] at hq
        cases e : L2.head? with
        | none => rw [e] at hq; exact hr k2 q hq
        | some y => rw [e] at hq; cases hq; exact D.bk k2 _ e
    rcases tt with rfl | rfl
    · obtain ⟨b1, b2, b3, b4⟩ := beside (ps := ps) (plan := plan) (mark := mark) (n := n) hs h.bl h.tb hsm hx
      rcases hk with ⟨k, e⟩ | ⟨k, e⟩ | ⟨k, e⟩
      · -- mark, t, s'
        refine glue [path] (walkF ps mark (walkN ps plan mark n) path s') ?_ ?_ (fun k0 => absurd k0 (by omega)) (fun _ q hq => ?_)
        · show plan.flatMap (walkF ps mark (walkN ps plan mark n) path) = _
          conv => lhs; arg 2; rw [e]
          rw [List.flatMap_cons, List.flatMap_cons, List.flatMap_cons, List.flatMap_nil, walkF_mark, t3, List.append_nil]; simp
        · intro q hq
          rcases List.mem_append.mp hq with q1 | q1
          · rw [List.mem_singleton.mp q1]; exact b2
          · exact b1 q q1
        · cases n with
          | zero => cases t4
          | succ n =>
            unfold walkF at hq
            rw [if_neg hsm'] at hq
            split at hq
            · rw [walk_head n _ _ _ e] at hq; cases hq; exact b4
            · cases hq
      · -- t, mark, s'
        refine glue [] ([path] ++ walkF ps mark (walkN ps plan mark n) path s') ?_ ?_ (fun _ q hq => by cases hq) (fun _ q hq => by cases hq; exact b3)
        · show plan.flatMap (walkF ps mark (walkN ps plan mark n) path) = _
          conv => lhs; arg 2; rw [e]
          rw [List.flatMap_cons, List.flatMap_cons, List.flatMap_cons, List.flatMap_nil, walkF_mark, t3, List.append_nil]; simp
        · intro q hq
          rcases List.mem_append.mp (by simpa using hq : q ∈ [path] ++ walkF ps mark (walkN ps plan mark n) path s') with q1 | q1
          · rw [List.mem_singleton.mp q1]; exact b2
          · exact b1 q q1
      · -- t, s', mark
        refine glue [] (walkF ps mark (walkN ps plan mark n) path s' ++ [path]) ?_ ?_ (fun _ q hq => by cases hq) (fun k2 => absurd k2 (by omega))
        · show plan.flatMap (walkF ps mark (walkN ps plan mark n) path) = _
          conv => lhs; arg 2; rw [e]
          rw [List.flatMap_cons, List.flatMap_cons, List.flatMap_cons, List.flatMap_nil, walkF_mark, t3, List.append_nil]; simp
        · intro q hq
          rcases List.mem_append.mp (by simpa using hq : q ∈ walkF ps mark (walkN ps plan mark n) path s' ++ [path]) with q1 | q1
          · exact b1 q q1
          · rw [List.mem_singleton.mp q1]; exact b2
    · obtain ⟨b1, b2, b3, b4⟩ := beside (ps := ps) (plan := plan) (mark := mark) (n := n) hs2 h.bl h.tb hsm' hx
      rcases hk with ⟨k, e⟩ | ⟨k, e⟩ | ⟨k, e⟩
      · -- mark, s, t
        refine glue ([path] ++ walkF ps mark (walkN ps plan mark n) path s) [] ?_ ?_ (fun k0 => absurd k0 (by omega)) (fun _ q hq => by cases hq)
        · show plan.flatMap (walkF ps mark (walkN ps plan mark n) path) = _
          conv => lhs; arg 2; rw [e]
          rw [List.flatMap_cons, List.flatMap_cons, List.flatMap_cons, List.flatMap_nil, walkF_mark, t3, List.append_nil]; simp
        · intro q hq
          rcases List.mem_append.mp (by simpa using hq : q ∈ [path] ++ walkF ps mark (walkN ps plan mark n) path s) with q1 | q1
          · rw [List.mem_singleton.mp q1]; exact b2
          · exact b1 q q1
      · -- s, mark, t
        refine glue (walkF ps mark (walkN ps plan mark n) path s ++ [path]) [] ?_ ?_ (fun _ q hq => ?_) (fun _ q hq => by cases hq)
        · show plan.flatMap (walkF ps mark (walkN ps plan mark n) path) = _
          conv => lhs; arg 2; rw [e]
          rw [List.flatMap_cons, List.flatMap_cons, List.flatMap_cons, List.flatMap_nil, walkF_mark, t3, List.append_nil]; simp
        · intro q hq
          rcases List.mem_append.mp (by simpa using hq : q ∈ walkF ps mark (walkN ps plan mark n) path s ++ [path]) with q1 | q1
          · exact b1 q q1
          · rw [List.mem_singleton.mp q1]; exact b2
        · rw [List.getLast?_append] at hq; cases hq; exact b3
      · -- s, t, mark
        refine glue (walkF ps mark (walkN ps plan mark n) path s) [path] ?_ ?_ (fun _ q hq => ?_) (fun k2 => absurd k2 (by omega))
        · show plan.flatMap (walkF ps mark (walkN ps plan mark n) path) = _
          conv => lhs; arg 2; rw [e]
          rw [List.flatMap_cons, List.flatMap_cons, List.flatMap_cons, List.flatMap_nil, walkF_mark, t3, List.append_nil]; simp
        · intro q hq
          rcases List.mem_append.mp hq with q1 | q1
          · exact b1 q q1
          · rw [List.mem_singleton.mp q1]; exact b2
        · cases n with
          | zero => cases t4
          | succ n =>
            unfold walkF at hq
            rw [if_neg hsm] at hq
            split at hq
            · rw [walk_last n _ _ _ e] at hq; cases hq; exact b4
            · cases hq
end
end

section

/-! ## what a branch reaches, and its sums -/
theorem pre_iff {p q : List Nat} : pre p q = true ↔ p <+: q := by
  unfold pre
  rw [decide_eq_true_eq, List.prefix_iff_eq_take]
  exact eq_comm

theorem lessAt_eq {rows : List Row} {W : List (List Nat)} (h : rows.map (·.p) = W) {i j : Nat} {p q : List Nat} (hi : W[i]? = some p) (hj : W[j]? = some q) : lessAt rows i j = lessP p q := by
  unfold lessAt lessP
  rw [h, List.getD_eq_getElem?_getD, List.getD_eq_getElem?_getD, hi, hj]; rfl

section
variable {ps plan : List (List Nat)} {mark blanks : List Nat} {kind : Nat}

theorem reach_of (h : PlanOk blanks mark plan kind) (n : Nat) (first : List Nat) (rows : List Row) (hso : rows.map (·.p) = walkN ps plan mark n first) (hnd : (rows.map (·.p)).Nodup) (hbl : ∀ r ∈ rows, Blank r.p) (i : Nat) (r : Row) (hi : rows[i]? = some r) :
    ∃ f b, Reach rows kind (fun _ => f) (fun _ => b) i ∧ (rows.drop f).take (b - f) = rows.filter fun q => pre r.p q.p := by
  have hil : i < rows.length := by
    rcases Nat.lt_or_ge i rows.length with q | q
    · exact q
    · rw [List.getElem?_eq_none q] at hi; cases hi
  have hir : rows[i] = r := by rw [List.getElem?_eq_getElem hil] at hi; injection hi
  have hmem : r.p ∈ walkN ps plan mark n first := by rw [← hso]; exact List.mem_map.mpr ⟨r, by rw [← hir]; exact List.getElem_mem hil, rfl⟩
  obtain ⟨m, L1, L2, hm, D⟩ := decompose h n first r.p hmem
  -- the branch itself
  have hself : r.p ∈ walkN ps plan mark (m + 1) r.p := walk_self (by rw [h.perm.mem_iff]; simp) m r.p
  obtain ⟨B1, B2, hB⟩ := List.append_of_mem hself
  have hWp : walkN ps plan mark n first = L1 ++ (B1 ++ r.p :: B2) ++ L2 := by rw [D.eq, hB]
  obtain ⟨s, s', hs, hsm, hsm', hne, hk⟩ := plan_cases h
  have k0 : kind = 0 → B1 = [] := fun e => by
    rcases hk with ⟨_, e1⟩ | ⟨q, _⟩ | ⟨q, _⟩
    · cases B1 with
      | nil => rfl
      | cons x xs =>
        have hh := walk_head (ps := ps) m r.p s s' e1
        rw [hB] at hh
        have hx : x = r.p := by injection hh
        subst hx
        rw [hso, hWp] at hnd
        have := (List.nodup_append.mp hnd).1
        have := (List.nodup_append.mp this).2.1
        have := (List.nodup_cons.mp this).1
        exact absurd (by simp) this
    · omega
    · omega
  have k2 : ¬kind < 2 → B2 = [] := fun e => by
    rcases hk with ⟨q, _⟩ | ⟨q, _⟩ | ⟨_, e1⟩
    · omega
    · omega
    · rcases List.eq_nil_or_concat B2 with q | ⟨xs, x, q⟩
      · exact q
      · have hh := walk_last (ps := ps) m r.p s s' e1
        have e9 : B1 ++ r.p :: B2 = (B1 ++ r.p :: xs) ++ [x] := by rw [q]; simp
        rw [hB, e9, List.getLast?_append] at hh
        have hx : x = r.p := by injection hh
        subst q
        subst hx
        rw [hso, hWp] at hnd
        have := (List.nodup_append.mp hnd).1
        have := (List.nodup_append.mp this).2.1
        have := (List.nodup_append.mp this).2.1
        have := (List.nodup_cons.mp this).1
        exact absurd (by simp) this
  have hlen : rows.length = L1.length + (B1.length + (B2.length + 1)) + L2.length := by
    have := congrArg List.length (hso.trans hWp)
    rw [List.length_map, List.length_append, List.length_append, List.length_append, List.length_cons] at this
    exact this
  have at_ : ∀ (j : Nat) (q : List Nat), (L1 ++ (B1 ++ r.p :: B2) ++ L2)[j]? = some q → (walkN ps plan mark n first)[j]? = some q := fun j q e => by rw [hWp]; exact e
  have hip : (walkN ps plan mark n first)[i]? = some r.p := by rw [← hso, List.getElem?_map, hi]; rfl
  have hii : i = L1.length + B1.length := by
    have e1 : (walkN ps plan mark n first)[L1.length + B1.length]? = some r.p := at_ _ _ (by
      rw [List.append_assoc, List.getElem?_append_right (by omega), Nat.add_sub_cancel_left, List.append_assoc, List.getElem?_append_right (Nat.le_refl _), Nat.sub_self]; rfl)
    rw [hso] at hnd
    have hl1 : i < (walkN ps plan mark n first).length := by rw [← hso, List.length_map]; exact hil
    exact (List.getElem?_inj hl1 hnd).mp (hip.trans e1.symm)
  -- inside
  have ext : ∀ q ∈ B1 ++ B2, q ∈ rows.map (·.p) → lessP r.p q = true := fun q hq hq' => by
    have hqw : q ∈ walkN ps plan mark (m + 1) r.p := by
      rw [hB]
      rcases List.mem_append.mp hq with a | a
      · exact List.mem_append_left _ a
      · exact List.mem_append_right _ (List.mem_cons_of_mem _ a)
    obtain ⟨x, e⟩ := walk_ext _ _ _ hqw
    have hx : x ≠ [] := fun z => by
      subst z
      rw [List.append_nil] at e
      subst e
      rw [hso, hWp] at hnd
      have := (List.nodup_append.mp hnd).1
      have := (List.nodup_append.mp this).2.1
      obtain ⟨w1, w2, w3⟩ := List.nodup_append.mp this
      rcases List.mem_append.mp hq with a | a
      · exact w3 _ a _ (List.mem_cons_self ..) rfl
      · exact (List.nodup_cons.mp w2).1 a
    obtain ⟨r', hr', e'⟩ := List.mem_map.mp hq'
    subst e
    exact less_ext r.p x (by rw [← e']; exact hbl r' hr') hx
  have inW : ∀ (j : Nat) (q : List Nat), (walkN ps plan mark n first)[j]? = some q → q ∈ rows.map (·.p) := fun j q e => by rw [hso]; exact List.mem_of_getElem? e
  refine ⟨L1.length, L1.length + (B1.length + (B2.length + 1)), ⟨by omega, by omega, by omega, fun e => ?_, fun e j j1 j2 => ?_, fun e f0 => ?_, fun e => ?_, fun e j j1 j2 => ?_, fun e b0 => ?_⟩, ?_⟩
  · rw [hii, k0 e]; rfl
  · have hj : B1[j - L1.length]? = some (B1[j - L1.length]'(by omega)) := List.getElem?_eq_getElem (by omega)
    have hW := at_ j _ (by rw [List.append_assoc, List.getElem?_append_right j1, List.append_assoc, List.getElem?_append_left (by omega)]; exact hj)
    rw [lessAt_eq hso hip hW]
    exact ext _ (List.mem_append_left _ (List.getElem_mem _)) (inW _ _ hW)
  · have hj : L1[L1.length - 1]? = some (L1[L1.length - 1]'(by omega)) := List.getElem?_eq_getElem (by omega)
    have hW := at_ (L1.length - 1) _ (by rw [List.append_assoc, List.getElem?_append_left (by omega)]; exact hj)
    rw [lessAt_eq hso hip hW]
    exact D.fr e _ (by rw [List.getLast?_eq_getElem?]; exact hj)
  · show L1.length + (B1.length + (B2.length + 1)) = i + 1
    rw [hii, k2 e]; rfl
  · have hj : B2[j - (i + 1)]? = some (B2[j - (i + 1)]'(by omega)) := List.getElem?_eq_getElem (by omega)
    have hW := at_ j _ (by
      rw [List.append_assoc, List.getElem?_append_right (by omega), List.append_assoc, List.getElem?_append_right (by omega), List.cons_append, show j - L1.length - B1.length = (j - (i + 1)) + 1 from by omega, List.getElem?_cons_succ, List.getElem?_append_left (by omega)]; exact hj)
    rw [lessAt_eq hso hip hW]
    exact ext _ (List.mem_append_right _ (List.getElem_mem _)) (inW _ _ hW)
  · have b0 : L1.length + (B1.length + (B2.length + 1)) < rows.length := b0
    have hj : L2[0]? = some (L2[0]'(by omega)) := List.getElem?_eq_getElem (by omega)
    have hW := at_ (L1.length + (B1.length + (B2.length + 1))) _ (by
      rw [List.getElem?_append_right (by rw [List.length_append, List.length_append, List.length_cons]; omega), List.length_append, List.length_append, List.length_cons, Nat.sub_self]; exact hj)
    rw [lessAt_eq hso hip hW]
    exact D.bk e _ (by rw [List.head?_eq_getElem?]; exact hj)
  · -- the rows of the branch
    have e0 := hso.trans hWp
    obtain ⟨R12, R3, q1, q2, q3⟩ := List.map_eq_append_iff.mp e0
    obtain ⟨R1, R2, q4, q5, q6⟩ := List.map_eq_append_iff.mp q2
    subst q4
    have l1 : R1.length = L1.length := by rw [← q5, List.length_map]
    have l2 : R2.length = B1.length + (B2.length + 1) := by rw [← List.length_map (f := fun r : Row => r.p), q6, List.length_append, List.length_cons]
    have hd : ((rows.drop L1.length).take (L1.length + (B1.length + (B2.length + 1)) - L1.length)) = R2 := by
      rw [Nat.add_sub_cancel_left, ← l2, ← l1, q1, List.append_assoc, List.drop_left, List.take_left]
    rw [hd, q1, List.filter_append, List.filter_append]
    have n1 : R1.filter (fun q => pre r.p q.p) = [] := List.filter_eq_nil_iff.mpr fun q hq z => D.no q.p (List.mem_append_left _ (by rw [← q5]; exact List.mem_map.mpr ⟨q, hq, rfl⟩)) (pre_iff.mp z)
    have n3 : R3.filter (fun q => pre r.p q.p) = [] := List.filter_eq_nil_iff.mpr fun q hq z => D.no q.p (List.mem_append_right _ (by rw [← q3]; exact List.mem_map.mpr ⟨q, hq, rfl⟩)) (pre_iff.mp z)
    have n2 : R2.filter (fun q => pre r.p q.p) = R2 := List.filter_eq_self.mpr fun q hq => by
      have : q.p ∈ walkN ps plan mark (m + 1) r.p := by rw [hB, ← q6]; exact List.mem_map.mpr ⟨q, hq, rfl⟩
      obtain ⟨x, e⟩ := walk_ext _ _ _ this
      exact pre_iff.mpr ⟨x, e.symm⟩
    rw [n1, n2, n3, List.nil_append, List.append_nil]
end
end

section

noncomputable def sumBy {α : Type} (f : α → Int) : List α → Int
  | [] => 0
  | x :: xs => f x + sumBy f xs
theorem sumBy_perm {α : Type} (f : α → Int) {l m : List α} (h : l.Perm m) : sumBy f l = sumBy f m := by
  induction h with
  | nil => rfl
  | cons x _ ih => show _ + _ = _ + _; rw [ih]
  | swap x y l => show f y + (f x + _) = f x + (f y + _); omega
  | trans _ _ a b => exact a.trans b
theorem sumBy_congr {α : Type} {f g : α → Int} : ∀ {l : List α}, (∀ x ∈ l, f x = g x) → sumBy f l = sumBy g l
  | [], _ => rfl
  | x :: xs, h => by
    show f x + _ = g x + _
    rw [h x (List.mem_cons_self ..), sumBy_congr fun y hy => h y (List.mem_cons_of_mem _ hy)]

theorem tabs_nt (p : List Nat) (hp : Blank p) : tabsN p = ((ws p).nt : Int) := by
  have key : ∀ (p : List Nat), Blank p → ∀ s : Ws, ((p.foldl wsStep s).nt : Int) = s.nt + cnt 9 p := by
    intro p
    induction p with
    | nil => intro _ s; rw [cnt_nil]; simp
    | cons c p ih =>
      intro hp s
      have hp' : Blank p := fun x hx => hp x (List.mem_cons_of_mem _ hx)
      rw [List.foldl_cons, ih hp', cnt_cons]
      unfold wsStep
      rcases hp c (List.mem_cons_self ..) with rfl | rfl
      · rw [if_pos rfl, if_neg (by decide)]; show (s.nt : Int) + _ = _; omega
      · rw [if_neg (by decide), if_pos rfl]; show ((s.nt + 1 : Nat) : Int) + _ = _; omega
  unfold tabsN ws
  rw [key p hp ⟨[], 0, 0, 0⟩]
  show Txt.count (S p) ⟨#[9]⟩ = ((0 : Nat) : Int) + _
  rw [count_cnt]
  have : (S p).cps.toList = p := by simp [S]
  rw [this]; omega

theorem block_sum (ts : Nat) : ∀ (l : List Row) (x : Acc), l.foldl (entStep ts) x = ⟨x.a + sumBy (fun r => ((ws r.p).nt : Int)) l, x.b + sumBy (fun r => ((ws r.p).n : Int)) l, x.c + sumBy (·.wt) l, x.d + sumBy (fun r => indentI (ws r.p) ts) l, x.t ++ l.map fun r => (r.wr, r.wt)⟩
  | [], x => by simp [sumBy]
  | r :: l, x => by
    rw [List.foldl_cons, block_sum ts l]
    simp only [entStep, sumBy, List.map_cons, List.append_assoc, List.singleton_append, Acc.mk.injEq, and_true]
    omega
theorem told_sum (col : Row → Int) (p : List Nat) : ∀ (l : List Row) (x : Acc), l.foldl (toldStep col p) x = ⟨x.a + sumBy (fun r => tabsN r.p) (l.filter fun r => pre p r.p), x.b + sumBy (fun r => (r.p.length : Int)) (l.filter fun r => pre p r.p), x.c + sumBy (·.wt) (l.filter fun r => pre p r.p), x.d + sumBy col (l.filter fun r => pre p r.p), x.t ++ (l.filter fun r => pre p r.p).map fun r => (r.wr, r.wt)⟩
  | [], x => by simp [sumBy]
  | r :: l, x => by
    rw [List.foldl_cons, told_sum col p l]
    unfold toldStep
    by_cases h : pre p r.p = true
    · rw [if_pos h, List.filter_cons_of_pos (by exact h)]
      simp only [sumBy, List.map_cons, List.append_assoc, List.singleton_append, Acc.mk.injEq, and_true]
      omega
    · rw [if_neg h, List.filter_cons_of_neg (by exact h)]
theorem count_sum : ∀ (t : Tab) (a : Int), t.foldl (fun n e => n + e.2) a = a + sumBy (·.2) t
  | [], a => by simp [sumBy]
  | e :: t, a => by rw [List.foldl_cons, count_sum t]; simp only [sumBy]; omega
theorem sumBy_map {α β : Type} (f : β → Int) (g : α → β) : ∀ l : List α, sumBy f (l.map g) = sumBy (fun x => f (g x)) l
  | [] => rfl
  | x :: xs => by show f (g x) + sumBy f (xs.map g) = _; rw [sumBy_map f g xs]; rfl

theorem lookup_of_mem {l : List (Str × D)} (h : (l.map (·.1)).Nodup) {k : Str} {d : D} (m : (k, d) ∈ l) : l.lookup k = some d := by
  induction l with
  | nil => cases m
  | cons e l ih =>
    obtain ⟨k', d'⟩ := e
    rw [List.map_cons, List.nodup_cons] at h
    rcases List.mem_cons.mp m with q | q
    · cases q; exact lookup_cons_eq ..
    · have : k ≠ k' := fun z => h.1 (by subst z; exact List.mem_map.mpr ⟨(k, d), q, rfl⟩)
      rw [lookup_cons_ne this]
      exact ih h.2 q

theorem tab_sm {a b : Tab} (h : a.Perm b) (hn : (b.map (·.1)).Nodup) : Sm 2 (.dic (tabD a)) (.dic (tabD b)) := by
  have hs : ((tabD b).map (·.1)).Nodup := by
    unfold tabD
    rw [List.map_map, show ((fun x : Str × D => x.1) ∘ fun e : List Nat × Int => (S e.1, D.int e.2)) = (fun l => S l) ∘ (fun e : List Nat × Int => e.1) from rfl, ← List.map_map]
    exact List.Pairwise.map _ (fun x y hxy z => hxy (S_inj.mp z)) hn
  refine ⟨by unfold tabD; rw [List.length_map, List.length_map]; exact h.length_eq, fun k d hk => ?_⟩
  obtain ⟨e, he, q⟩ := List.mem_map.mp hk
  cases q
  exact ⟨_, lookup_of_mem hs (List.mem_map.mpr ⟨e, h.mem_iff.mp he, rfl⟩), rfl⟩

theorem same (ts : Nat) (col : Row → Int) (rowsA rowsB : List Row) (hperm : rowsA.Perm rowsB) (hbl : ∀ r ∈ rowsB, Blank r.p) (hcol : ∀ r ∈ rowsB, col r = indentI (ws r.p) ts) (hw : (rowsB.map (·.wr)).Nodup) (hn : (rowsB.map (·.p)).Nodup) (fr bk : Nat → Nat)
    (hb : ∀ i r, rowsA[i]? = some r → (rowsA.drop (fr i)).take (bk i - fr i) = rowsA.filter fun q => pre r.p q.p) :
    Sm 5 (.dic (rowsA.zipIdx.map fun x => branchRow ts rowsA fr bk x.2 x.1)) (.dic (rowsB.map (toldRow col rowsB))) := by
  have hs : ((rowsB.map (toldRow col rowsB)).map (·.1)).Nodup := by
    rw [List.map_map, show ((fun x : Str × D => x.1) ∘ toldRow col rowsB) = (fun l => S l) ∘ (fun e : Row => e.p) from rfl, ← List.map_map]
    exact List.Pairwise.map _ (fun x y hxy z => hxy (S_inj.mp z)) hn
  refine ⟨by rw [List.length_map, List.length_map, List.length_zipIdx]; exact hperm.length_eq, fun k d hk => ?_⟩
  obtain ⟨⟨r, i⟩, he, q⟩ := List.mem_map.mp hk
  have hi : rowsA[i]? = some r := by
    have := List.mem_zipIdx_iff_getElem?.mp he
    exact this
  have hr : r ∈ rowsB := hperm.mem_iff.mp (List.mem_of_getElem? hi)
  cases q
  refine ⟨_, lookup_of_mem hs (List.mem_map.mpr ⟨r, hr, rfl⟩), ?_⟩
  rw [hb i r hi]
  have hf : (rowsA.filter fun q => pre r.p q.p).Perm (rowsB.filter fun q => pre r.p q.p) := hperm.filter _
  have hsub : (rowsB.filter fun q => pre r.p q.p).Sublist rowsB := List.filter_sublist
  unfold blockOf toldOf
  rw [block_sum, told_sum]
  generalize hA : (rowsA.filter fun q => pre r.p q.p) = A at hf
  generalize hB : (rowsB.filter fun q => pre r.p q.p) = B at hf hsub
  have e1 : sumBy (fun r => ((ws r.p).nt : Int)) A = sumBy (fun r => tabsN r.p) B := (sumBy_perm _ hf).trans (sumBy_congr fun x hx => (tabs_nt x.p (hbl x (hsub.subset hx))).symm)
  have e2 : sumBy (fun r => ((ws r.p).n : Int)) A = sumBy (fun r => (r.p.length : Int)) B := (sumBy_perm _ hf).trans (sumBy_congr fun x hx => by rw [ws_n])
  have e3 : sumBy (fun r : Row => r.wt) A = sumBy (fun r : Row => r.wt) B := sumBy_perm _ hf
  have e4 : sumBy (fun r => indentI (ws r.p) ts) A = sumBy col B := (sumBy_perm _ hf).trans (sumBy_congr fun x hx => (hcol x (hsub.subset hx)).symm)
  have e5 : Sm 2 (.dic (tabD (A.map fun r => (r.wr, r.wt)))) (.dic (tabD (B.map fun r => (r.wr, r.wt)))) := tab_sm (hf.map _) (by
    rw [List.map_map]
    exact (hsub.map (·.wr)).nodup hw)
  have e6 : (([] : Tab) ++ A.map fun r : Row => (r.wr, r.wt)).foldl (fun (n : Int) (e : List Nat × Int) => n + e.2) (0 : Int) = 0 + sumBy (fun r : Row => r.wt) B := by
    rw [count_sum, List.nil_append, sumBy_map, ← e3]
  refine ⟨rfl, fun j x y hx hy => ?_⟩
  match j, hx, hy with
  | 0, hx, hy =>
    cases hx; cases hy
    refine ⟨rfl, fun j x y hx hy => ?_⟩
    match j, hx, hy with
    | 0, hx, hy => cases hx; cases hy; show _ + _ = _ + _; rw [e1]
    | 1, hx, hy => cases hx; cases hy; show _ + _ = _ + _; rw [e2]
    | 2, hx, hy => cases hx; cases hy; show _ + _ = _ + _; rw [e3]
    | 3, hx, hy => cases hx; cases hy; show _ + _ = _ + _; rw [e4]
    | 4, hx, hy => cases hx; cases hy; exact e5
    | j + 5, hx, hy => cases hx
  | 1, hx, hy => cases hx; cases hy; exact e6
  | j + 2, hx, hy => cases hx
end

section

theorem ws_fit (p : List Nat) (h : p.length ≤ 100) : (ws p).fit := by
  have key : ∀ (p : List Nat) (s : Ws) (m : Nat), p.length ≤ m → s.small m → (p.foldl wsStep s).small 0 := by
    intro p
    induction p with
    | nil => intro s m _ hs; exact ⟨by have := hs.1; show s.b + 0 ≤ 100; omega, by have := hs.2; show s.cnt.length + s.b + 0 ≤ 101; omega⟩
    | cons c p ih =>
      intro s m hm hs
      rw [List.length_cons] at hm
      cases m with
      | zero => omega
      | succ m => exact ih _ m (by omega) (ws_small c hs)
  have := key p ⟨[], 0, 0, 0⟩ 100 h ⟨by decide, by decide⟩
  unfold ws Ws.fit
  exact ⟨by have := this.1; omega, by have := this.2; omega⟩

theorem Tree.nodup {blanks first : List Nat} : ∀ {ps : List (List Nat)}, Tree blanks first ps → ps.Nodup
  | _, .root => List.nodup_cons.mpr ⟨List.not_mem_nil, List.nodup_nil⟩
  | _, .grow t hp he hn => by
    refine List.nodup_append.mpr ⟨Tree.nodup t, List.nodup_cons.mpr ⟨List.not_mem_nil, List.nodup_nil⟩, fun a ha b hb q => ?_⟩
    rw [List.mem_singleton.mp hb] at q
    subst q
    exact hn ha
theorem Blank.append {a b : List Nat} (x : Blank a) (y : Blank b) : Blank (a ++ b) := fun c hc => (List.mem_append.mp hc).elim (x c) (y c)
theorem Tree.blank {blanks first : List Nat} (hf : Blank first) (hb : Blank blanks) : ∀ {ps : List (List Nat)}, Tree blanks first ps → ∀ p ∈ ps, Blank p
  | _, .root, p, hp => by rw [List.mem_singleton.mp hp]; exact hf
  | _, .grow (p := q) t hq he hn, p, hp => by
    rcases List.mem_append.mp hp with a | a
    · exact Tree.blank hf hb t p a
    · rw [List.mem_singleton.mp a]
      refine (Tree.blank hf hb t q hq).append ?_
      rcases he with rfl | rfl
      · intro c hc; exact .inr (List.mem_singleton.mp hc)
      · exact hb

noncomputable def Good2 (n : Nat) (blanks mark : List Nat) : Bool :=
  Good n blanks mark && (enc (codes n) [9] != enc (codes n) blanks && (enc (codes n) [9] != enc (codes n) mark && (enc (codes n) blanks != enc (codes n) mark && (enc (codes n) blanks != [] && ([9] != mark && (blanks != mark && pfree [9] blanks))))))
theorem good2_all : (List.range 5).all (fun n => allBlanks.all fun b => allMarks.all fun m => Good2 n b m) = true := by decide +kernel
structure Good3 (n : Nat) (blanks mark : List Nat) : Prop where
  good : Good n blanks mark = true
  tb : enc (codes n) [9] ≠ enc (codes n) blanks
  tm : enc (codes n) [9] ≠ enc (codes n) mark
  bm : enc (codes n) blanks ≠ enc (codes n) mark
  b0 : enc (codes n) blanks ≠ []
  tm' : [9] ≠ mark
  bm' : blanks ≠ mark
  pf : pfree [9] blanks = true
theorem good3 {n : Nat} {blanks mark : List Nat} (hn : n ≤ 4) (hb : blanks ∈ allBlanks) (hm : mark ∈ allMarks) : Good3 n blanks mark := by
  have h := List.all_eq_true.mp (List.all_eq_true.mp (List.all_eq_true.mp good2_all n (List.mem_range.mpr (by omega))) blanks hb) mark hm
  unfold Good2 at h
  simp only [Bool.and_eq_true, bne_iff_ne] at h
  obtain ⟨h1, h2, h3, h4, h5, h6, h7, h8⟩ := h
  exact ⟨h1, h2, h3, h4, h5, h6, h7, h8⟩

theorem blanks_of {b : List Nat} (h : b ∈ allBlanks) : Blanks b ∧ Blank b ∧ 1 ≤ b.length ∧ b.length ≤ 3 := by
  simp only [allBlanks, List.mem_cons, List.not_mem_nil, or_false] at h
  rcases h with rfl | rfl | rfl | rfl
  · exact ⟨⟨1, by decide, .inl rfl⟩, by unfold Blank; decide, by decide, by decide⟩
  · exact ⟨⟨3, by decide, .inl rfl⟩, by unfold Blank; decide, by decide, by decide⟩
  · exact ⟨⟨1, by decide, .inr rfl⟩, by unfold Blank; decide, by decide, by decide⟩
  · exact ⟨⟨2, by decide, .inr rfl⟩, by unfold Blank; decide, by decide, by decide⟩
theorem mark_len {m : List Nat} (h : m ∈ allMarks) : m.length ≤ 1 := by
  simp only [allMarks, List.mem_cons, List.not_mem_nil, or_false] at h
  rcases h with rfl | rfl | rfl | rfl | rfl | rfl | rfl | rfl <;> decide

/-- the paths of the tree, as the law's turns need them -/
structure Forest (blanks first : List Nat) (ps : List (List Nat)) : Prop where
  tree : Tree blanks first ps
  six : ps.length = 6
  short : ∀ p ∈ ps, p.length ≤ first.length + 15
  low : first.length ≤ 2
  blank : ∀ p ∈ ps, Blank p
  nodup : ps.Nodup
  root : first ∈ ps
theorem forest {blanks first : List Nat} (hb : blanks ∈ allBlanks) (hf : first ∈ [[], [32, 9]]) {ps : List (List Nat)} (t : Tree blanks first ps) (h6 : ps.length = 6) : Forest blanks first ps := by
  obtain ⟨b1, b2, b3, b4⟩ := blanks_of hb
  have hfl : first.length ≤ 2 ∧ Blank first := by
    simp only [List.mem_cons, List.not_mem_nil, or_false] at hf
    rcases hf with rfl | rfl
    · exact ⟨by decide, by unfold Blank; decide⟩
    · exact ⟨by decide, by unfold Blank; decide⟩
  refine ⟨t, h6, fun p hp => ?_, hfl.1, Tree.blank hfl.2 b2 t, t.nodup, t.root_mem⟩
  have := t.len b4 p hp
  rw [h6] at this
  exact this

/-- what one turn of the law needs -/
structure Turn3 (n : Nat) (blanks mark first : List Nat) (ps plan : List (List Nat)) (kind : Nat) : Prop where
  ok : PlanOk blanks mark plan kind
  kind2 : kind ≤ 2
  steps : ∀ st ∈ plan, st.length ≤ 10 ∧ (st ≠ mark → st ≠ [])
  key : ∀ p ∈ ps, ∀ q ∈ ps, keyOf n mark p = keyOf n mark q → p = q
  small : ∀ k, ∀ p ∈ ps, (walkN ps plan mark k p).length ≤ 100
  order : ∀ so : List (List Nat), so.Perm ps → so.Pairwise (fun p q => sLt (keyOf n mark p) (keyOf n mark q)) → so = walkN ps plan mark 20 first

theorem turn3 {n : Nat} {blanks mark first : List Nat} (hn : n ≤ 4) (hb : blanks ∈ allBlanks) (hm : mark ∈ allMarks) {ps : List (List Nat)} (F : Forest blanks first ps) {plan : List (List Nat)} (hp : plan.Perm [[9], blanks, mark]) (hs : plan.Pairwise fun x y => sLt (S (enc (codes n) x)) (S (enc (codes n) y))) :
    ∃ kind, Turn3 n blanks mark first ps plan kind := by
  have g := good3 hn hb hm
  obtain ⟨b1, b2, b3, b4⟩ := blanks_of hb
  have hmem : ∀ x, x ∈ plan ↔ x ∈ [[9], blanks, mark] := fun x => hp.mem_iff
  have mm : mark ∈ plan := (hmem _).mpr (by simp)
  have mt : [9] ∈ plan := (hmem _).mpr (by simp)
  have mb : blanks ∈ plan := (hmem _).mpr (by simp)
  have hl : plan.length = 3 := hp.length_eq
  have hpl : plan.Pairwise (PlanLt n mark) := hs.imp_of_mem fun {a b} ha hb h => plan_lt g.good g.b0 ((hmem _).mp ha) ((hmem _).mp hb) h
  obtain ⟨kind, hk⟩ : ∃ k, plan.findIdx? (· == mark) = some k := by
    cases e : plan.findIdx? (· == mark) with
    | some k => exact ⟨k, rfl⟩
    | none =>
      have := List.findIdx?_eq_none_iff.mp e mark mm
      simp at this
  have hk2 : kind ≤ 2 := by
    obtain ⟨h1, _⟩ := List.findIdx?_eq_some_iff_findIdx_eq.mp hk
    omega
  have sorted : ∀ k p, (walkN ps plan mark k p).Pairwise fun p q => sLt (keyOf n mark p) (keyOf n mark q) := walk_sorted n hpl
  have all : ∀ q ∈ ps, q ∈ walkN ps plan mark 20 first := fun q hq => by
    refine walk_mono (n := ps.length) (by rw [F.six]; decide) ?_
    exact walk_all mm mt mb g.tm' g.bm' F.tree (fun _ h => h) q hq
  have nd : ∀ k p, (walkN ps plan mark k p).Nodup := fun k p => sorted_nodup (r := fun p q => sLt (keyOf n mark p) (keyOf n mark q)) (fun x => sLt_irrefl _) (sorted k p)
  refine ⟨kind, ⟨hp, hk, pfree_not g.pf, g.tm', g.bm', b1⟩, hk2, fun st h => ?_, fun p h1 q h2 e => ?_, fun k p hp => ?_, fun so h1 h2 => ?_⟩
  · have := (hmem _).mp h
    simp only [List.mem_cons, List.not_mem_nil, or_false] at this
    rcases this with rfl | rfl | rfl
    · exact ⟨by decide, fun _ q => by cases q⟩
    · exact ⟨by omega, fun _ q => by subst q; exact absurd b3 (by decide)⟩
    · exact ⟨by have := mark_len hm; omega, fun q => absurd rfl q⟩
  · have w1 := all p h1
    have w2 := all q h2
    have hh := sorted 20 first
    obtain ⟨i, hi, e1⟩ := List.getElem_of_mem w1
    obtain ⟨j, hj, e2⟩ := List.getElem_of_mem w2
    rcases Nat.lt_trichotomy i j with c | c | c
    · have := List.pairwise_iff_getElem.mp hh i j hi hj c
      rw [e1, e2, e] at this
      exact absurd this (sLt_irrefl _)
    · subst c; rw [← e1, ← e2]
    · have := List.pairwise_iff_getElem.mp hh j i hj hi c
      rw [e1, e2, e] at this
      exact absurd this (sLt_irrefl _)
  · have := nodup_le (nd k p) fun x hx => walk_sub k p hp x hx
    rw [F.six] at this
    omega
  · refine sorted_unique (r := fun p q => sLt (keyOf n mark p) (keyOf n mark q)) (fun x => sLt_irrefl _) (fun x y z => sLt_trans) h2 (sorted 20 first) fun x => ⟨fun hx => all x (h1.mem_iff.mp hx), fun hx => h1.mem_iff.mpr (walk_sub 20 first F.root x hx)⟩

/-- the turn's last comparison -/
theorem turn_same {n : Nat} {blanks mark first : List Nat} {ps plan : List (List Nat)} {kind : Nat} (T : Turn3 n blanks mark first ps plan kind) (F : Forest blanks first ps) (R : List Nat → Row) (hR : ∀ p, (R p).p = p) (hW : ∀ p, (R p).wr = enc (codes n) (p ++ mark)) (ts : Nat) (h1 : 1 ≤ ts) (so : List (List Nat)) (hso : so.Perm ps) (hw : so = walkN ps plan mark 20 first) :
    ∃ fr bk : Nat → Nat, (∀ i, i < (so.map R).length → Reach (so.map R) kind fr bk i) ∧ Sm 5 (.dic ((so.map R).zipIdx.map fun x => branchRow ts (so.map R) fr bk x.2 x.1)) (.dic ((ps.map R).map (toldRow (fun r => column ts r.p) (ps.map R)))) := by
  have mp : ∀ l : List (List Nat), (l.map R).map (·.p) = l := fun l => by
    rw [List.map_map, show ((fun r : Row => r.p) ∘ R) = id from funext hR, List.map_id]
  have nd : so.Nodup := hso.nodup_iff.mpr F.nodup
  have bl : ∀ r ∈ ps.map R, Blank r.p := fun r hr => by
    obtain ⟨p, h, e⟩ := List.mem_map.mp hr
    subst e; rw [hR]; exact F.blank p h
  have bl' : ∀ r ∈ so.map R, Blank r.p := fun r hr => by
    obtain ⟨p, h, e⟩ := List.mem_map.mp hr
    subst e; rw [hR]; exact F.blank p (hso.mem_iff.mp h)
  have each : ∀ i, ∃ fb : Nat × Nat, ∀ r, (so.map R)[i]? = some r → Reach (so.map R) kind (fun _ => fb.1) (fun _ => fb.2) i ∧ ((so.map R).drop fb.1).take (fb.2 - fb.1) = (so.map R).filter fun q => pre r.p q.p := fun i => by
    cases e : (so.map R)[i]? with
    | none => exact ⟨(0, 0), fun r h => by cases h⟩
    | some r =>
      obtain ⟨f, b, x, y⟩ := reach_of T.ok 20 first (so.map R) (by rw [mp]; exact hw) (by rw [mp]; exact nd) bl' i r e
      exact ⟨(f, b), fun r' h => by cases h; exact ⟨x, y⟩⟩
  refine ⟨fun i => (Classical.choose (each i)).1, fun i => (Classical.choose (each i)).2, fun i hi => ?_, ?_⟩
  · obtain ⟨x, _⟩ := Classical.choose_spec (each i) _ (List.getElem?_eq_getElem hi)
    exact ⟨x.le, x.lt, x.top, x.fr0, x.frL, x.frE, x.bk0, x.bkL, x.bkE⟩
  · refine same ts _ _ _ (hso.map R) bl (fun r hr => (indent_column ts h1 r.p (bl r hr)).symm) ?_ (by rw [mp]; exact F.nodup) _ _ fun i r hi => (Classical.choose_spec (each i) r hi).2
    have e : (ps.map R).map (·.wr) = ps.map fun p => enc (codes n) (p ++ mark) := by rw [List.map_map]; exact List.map_congr_left fun p _ => hW p
    rw [e]
    refine List.pairwise_map.mpr (F.nodup.imp_of_mem fun {a b} ha hb hab q => hab (T.key a ha b hb ?_))
    unfold keyOf; rw [q]
end

section
/-- the law's answer -/
noncomputable abbrev LawQ : Fl → List (Str × D) → Prop := fun fl _ => fl = .ret (.bool true)
/-- what stays through the turns -/
noncomputable def lawEnv (weights : List Int) (drawn : List Nat) (size : Nat) (way draw : Int) (blanks : List Nat) (ps : List (List Nat)) : List (Str × D) :=
  [("drawn", .str (S drawn)), ("weights", .lst (weights.map .int)), ("columns", .lst (ps.map fun p => .int (column size p))), ("leads", .lst (ps.map leadD)), ("paths", pathsD ps), ("blanks", .str (S blanks)), ("size", .int size), ("way", .int way), ("draw", .int draw)]
/-- what a turn starts with -/
noncomputable def turnEnv (mark : List Nat) (n : Nat) (weights : List Int) (drawn : List Nat) (size : Nat) (way draw : Int) (blanks : List Nat) (ps : List (List Nat)) : List (Str × D) :=
  ("mark", .str (S mark)) :: ("number", .int n) :: lawEnv weights drawn size way draw blanks ps

theorem Free.cons {cx : Cx} {scope : Scope} {cl : List (Str × Addr)} {x y : Str} {d : D} {ρ ρc : List (Str × D)} (k : Free cx scope cl x ρ ρc) (h1 : ρ.lookup y = some d) (h2 : y ≠ x) (h3 : cx.env.kindOf y = some .cell ∨ cx.env.kindOf y = some .free) (h4 : cl.lookup y = cx.env.cells.lookup y)
    (h5 : (relabel scope cx.env).names.lookup y = some .cell ∨ (relabel scope cx.env).names.lookup y = some .free) : Free cx scope cl x ρ ((y, d) :: ρc) := by
  refine ⟨fun z e hz => ?_, fun z e hz => ?_, fun z e hz => ?_⟩ <;> by_cases q : z = y
  · subst q; rw [lookup_cons_eq] at hz; cases hz; exact h1
  · rw [lookup_cons_ne q] at hz; exact k.look z e hz
  · subst q; exact h2
  · rw [lookup_cons_ne q] at hz; exact k.nox z e hz
  · subst q; exact ⟨h3, h4, h5⟩
  · rw [lookup_cons_ne q] at hz; exact k.cell z e hz

theorem fmodN (z : Int) (m : Nat) (h : 0 < m) : ∃ k : Nat, k < m ∧ z.fmod m = k := by
  have h1 := Int.emod_nonneg z (b := (m : Int)) (by omega)
  have h2 := Int.emod_lt_of_pos z (b := (m : Int)) (by omega)
  refine ⟨(z % m).toNat, by omega, ?_⟩
  rw [Int.fmod_eq_emod_of_nonneg _ (by omega)]; omega

section
variable {prog : Program} {w : World} {K : Frag} {B : Base K} {cx : Cx} {O : List Addr} {G G' : GMap} {h h' : Heap} {ρ : List (Str × D)} {Ψ : D → Prop} {Φ : Fl → List (Str × D) → Prop}

/-- the first call: it makes the first token -/
theorem first_call {s : Shared} {Q : Flow → Shared → Prop} {E : Value → Shared → Prop} {x f a : Str} {xp p pa p' p'' : Pos} {fa : Addr} {d : D} (S : St prog w B cx O G s.heap ρ) (hl : ρ.lookup a = some d) (hka : cx.env.kindOf a = some .local) (hma : cx.mu.contains a = false) (hda : (a == ("__debug__" : Str)) = false)
    (hk : CanStore cx x) (hx : cx.env.kindOf f = some .globalImplicit) (hn : nsIn K mainGlobals f = some (some (.ref fa))) (hkp : keepIn K (.ref fa) = true) (hd : (f == ("__debug__" : Str)) = false)
    (y : JC0 prog w B cx (.ref fa) [d] Ψ) (hs : swapsWith (.Call (.Name f p) [.Name a pa] [] p') (some (.Name x xp)) p''.line cx.env = pure false)
    (R : ∀ h' tk' G' d', Step O G s.heap O G' h' → St prog w B cx O G' h' ((x, d') :: ρ) → 0 < tk' → Ψ d' → Q .next { s with heap := h', toks := tk' }) :
    wpAny (model prog w) cx.A (exec (.Assign [.Name x xp] (.Call (.Name f p) [.Name a pa] [] p') p'') cx.env) Q E s := by
  refine wpAny_Assign_Name ?_ hs
  show wpAny _ _ (do callWith p' (← eval (.Name f p) cx.env) [] (backTo p' (starEach [.Name a pa] cx.env)) []) _ E s
  refine wpAny_bind (eval_global S hx hn hd ?_)
  rw [starEach_plain (es := [.Name a pa]) rfl]
  refine callWith_of (P := fun h => K.In h) rfl (fun h X => Keeps.ref hkp _ h X) ?_
  obtain ⟨m, μ, hns, _, _, hv⟩ := S.fr
  refine evalArgs_plain (spliced_cons (wpAny_Name ?_ hda))
  cases hv a d hl with
  | own _ h2 => rw [hma] at h2; cases h2
  | cell h1 => rw [hka] at h1; rcases h1 with h1 | h1 <;> cases h1
  | loc h1 _ h3 h4 =>
    refine wpAny_loadName_local cx.kind h1 hns h3 (spliced_nil ⟨S.frag, ?_⟩)
    refine y G s _ E [_] S.base S.keep (.cons h4 .nil) fun v d' h₁ t₁ G₁ k₁ p₁ u₁ z₁ => ?_
    refine storeName_plain (s := { s with heap := h₁, toks := t₁ }) (S.grow k₁) p₁ hk.1 hk.2 fun h₂ t₂ k₂ S₂ u₂ => ?_
    exact R h₂ t₂ G₁ d' ((Step.grow S k₁).trans k₂) S₂ (by have : t₁ ≤ t₂ := u₂; omega) z₁

/-- the claim's own frame -/
noncomputable def lawCx (qual : Str) (scope : Scope) (L fa : Addr) (cd : Value) (hk : scope.kind = .function) : Cx :=
  { A := callerA.deeper (envOfC qual scope L fa cd), env := envOfC qual scope L fa cd, mu := [], own := true, pin := none, pinMu := (fun _ q => nomatch q), fuel := 40, handled := rfl
    depth := by show 1 + claimMargin + 1 + 40 < recursionLimit; decide
    units := by show 4 + 3 + 20 * 40 < cLine; decide
    kind := hk, globals := rfl, builtins := rfl }

/-- the body, walked: it ends in True -/
noncomputable def LawOk (prog : Program) (w : World) {K : Frag} (B : Base K) (is : List Int) : Prop :=
  ∀ {oc : Value} {od : Option Addr} {osl : Array (Option Value)} {name qual : Str} {params : Arguments} {body : List Stmt} {scope : Scope} {dV kV doc pm cdv ct : Value} {an : Option Addr}, K.lookup 329 = some ⟨oc, od, .func (fnOf name qual params body scope dV kV doc pm an cdv ct), osl⟩ →
    ∀ (hk : scope.kind = .function) (L fa : Addr) (cd : Value) O G (s : Shared) (Q : Flow → Shared → Prop) (E : Value → Shared → Prop), St prog w B (lawCx qual scope L fa cd hk) O G s.heap [("script", .lst (is.map .int))] →
      (∀ h' tk' O' G', Step O G s.heap O' G' h' → St prog w B (lawCx qual scope L fa cd hk) O' G' h' [] → Q (.ret (.bool true)) { s with heap := h', toks := tk' }) →
      wpAny (model prog w) (callerA.deeper (envOfC qual scope L fa cd)) (execs body (envOfC qual scope L fa cd)) Q E s
theorem LawOk.of {is : List Int} {oc : Value} {od : Option Addr} {osl : Array (Option Value)} {name qual : Str} {params : Arguments} {body : List Stmt} {scope : Scope} {dV kV doc pm cdv ct : Value} {an : Option Addr} (ho : K.lookup 329 = some ⟨oc, od, .func (fnOf name qual params body scope dV kV doc pm an cdv ct), osl⟩)
    (x : ∀ (hk : scope.kind = .function) (L fa : Addr) (cd : Value) O G (s : Shared) (Q : Flow → Shared → Prop) (E : Value → Shared → Prop), St prog w B (lawCx qual scope L fa cd hk) O G s.heap [("script", .lst (is.map .int))] →
      (∀ h' tk' O' G', Step O G s.heap O' G' h' → St prog w B (lawCx qual scope L fa cd hk) O' G' h' [] → Q (.ret (.bool true)) { s with heap := h', toks := tk' }) →
      wpAny (model prog w) (callerA.deeper (envOfC qual scope L fa cd)) (execs body (envOfC qual scope L fa cd)) Q E s) : LawOk prog w B is := by
  intro oc' od' osl' name' qual' params' body' scope' dV' kV' doc' pm' cdv' ct' an' h
  rw [ho] at h
  cases h
  exact x

/-- the rest of the body, from its k-th statement on -/
noncomputable def LawPart (prog : Program) (w : World) {K : Frag} (B : Base K) (k : Nat) (Φ : Fl → List (Str × D) → Prop) (ρ : List (Str × D)) : Prop :=
  ∀ {oc : Value} {od : Option Addr} {osl : Array (Option Value)} {name qual : Str} {params : Arguments} {body : List Stmt} {scope : Scope} {dV kV doc pm cdv ct : Value} {an : Option Addr}, K.lookup 329 = some ⟨oc, od, .func (fnOf name qual params body scope dV kV doc pm an cdv ct), osl⟩ →
    ∀ (hk : scope.kind = .function) (L fa : Addr) (cd : Value), WSs prog w B (lawCx qual scope L fa cd hk) (body.drop k) Φ ρ
theorem LawPart.of {k : Nat} {oc : Value} {od : Option Addr} {osl : Array (Option Value)} {name qual : Str} {params : Arguments} {body : List Stmt} {scope : Scope} {dV kV doc pm cdv ct : Value} {an : Option Addr} (ho : K.lookup 329 = some ⟨oc, od, .func (fnOf name qual params body scope dV kV doc pm an cdv ct), osl⟩)
    (x : ∀ (hk : scope.kind = .function) (L fa : Addr) (cd : Value), WSs prog w B (lawCx qual scope L fa cd hk) (body.drop k) Φ ρ) : LawPart prog w B k Φ ρ := by
  intro oc' od' osl' name' qual' params' body' scope' dV' kV' doc' pm' cdv' ct' an' h
  rw [ho] at h
  cases h
  exact x
/-- the loop's body, from its k-th statement on -/
noncomputable def LawTurn (prog : Program) (w : World) {K : Frag} (B : Base K) (k : Nat) (Φ : Fl → List (Str × D) → Prop) (ρ : List (Str × D)) : Prop :=
  ∀ {oc : Value} {od : Option Addr} {osl : Array (Option Value)} {name qual : Str} {params : Arguments} {body : List Stmt} {scope : Scope} {dV kV doc pm cdv ct : Value} {an : Option Addr}, K.lookup 329 = some ⟨oc, od, .func (fnOf name qual params body scope dV kV doc pm an cdv ct), osl⟩ →
    ∀ (hk : scope.kind = .function) (L fa : Addr) (cd : Value) {t it : Expr} {inner : List Stmt} {p : Pos}, body[10]? = some (.For t it inner [] p) → WSs prog w B (lawCx qual scope L fa cd hk) (inner.drop k) Φ ρ
theorem LawTurn.of {k : Nat} {oc : Value} {od : Option Addr} {osl : Array (Option Value)} {name qual : Str} {params : Arguments} {body : List Stmt} {scope : Scope} {dV kV doc pm cdv ct : Value} {an : Option Addr} (ho : K.lookup 329 = some ⟨oc, od, .func (fnOf name qual params body scope dV kV doc pm an cdv ct), osl⟩) {t it : Expr} {inner : List Stmt} {p : Pos} (hb : body[10]? = some (.For t it inner [] p))
    (x : ∀ (hk : scope.kind = .function) (L fa : Addr) (cd : Value), WSs prog w B (lawCx qual scope L fa cd hk) (inner.drop k) Φ ρ) : LawTurn prog w B k Φ ρ := by
  intro oc' od' osl' name' qual' params' body' scope' dV' kV' doc' pm' cdv' ct' an' h hk L fa cd t' it' inner' p' h2
  rw [ho] at h
  cases h
  rw [hb] at h2
  cases h2
  exact x hk L fa cd
theorem cut_ints (is : List Int) (a b : Option Int) : ∃ js : List Int, cut (is.map D.int) a b = js.map D.int ∧ js.length ≤ is.length := by
  refine ⟨(is.drop (a.elim 0 (clipAt is.length))).take (b.elim is.length (clipAt is.length) - a.elim 0 (clipAt is.length)), ?_, ?_⟩
  · unfold cut
    rw [List.length_map, ← List.map_drop, ← List.map_take]
  · rw [List.length_take, List.length_drop]; omega
end
end

section
/-- the row of a path -/
noncomputable def rowOf (n : Nat) (mark : List Nat) (weights : List Int) (ps : List (List Nat)) (p : List Nat) : Row := ⟨p, weights.getD (ps.findIdx (· == p)) 0, enc (codes n) (p ++ mark)⟩
noncomputable def fHand (n : Nat) (mark : List Nat) : D → D | .str x => .str (S (enc (codes n) (x.cps.toList ++ mark))) | d => d
noncomputable def fPick : D → D | .str x => leadD x.cps.toList | d => d
theorem fHand_map (n : Nat) (mark : List Nat) (ps : List (List Nat)) : ((ps.map S).map D.str).map (fHand n mark) = ps.map fun p => D.str (S (enc (codes n) (p ++ mark))) := by rw [List.map_map, List.map_map]; rfl
theorem fPick_map (ps : List (List Nat)) : ((ps.map S).map D.str).map fPick = ps.map leadD := by rw [List.map_map, List.map_map]; rfl
theorem findIdx_S (x : List Nat) : ∀ l : List (List Nat), (l.map S).findIdx? (· == S x) = l.findIdx? (· == x)
  | [] => rfl
  | a :: l => by
    rw [List.map_cons, List.findIdx?_cons, List.findIdx?_cons, findIdx_S x l, S_beq]
    by_cases q : a = x <;> simp [q]
theorem findIdx_at {x : List Nat} : ∀ {l : List (List Nat)}, x ∈ l → ∃ j, l.findIdx? (· == x) = some j ∧ l[j]? = some x ∧ j < l.length
  | a :: l, h => by
    by_cases q : a = x
    · subst q; exact ⟨0, by rw [List.findIdx?_cons]; simp, rfl, Nat.succ_pos _⟩
    · obtain ⟨j, h1, h2, h3⟩ := findIdx_at ((List.mem_cons.mp h).resolve_left fun e => q e.symm)
      refine ⟨j + 1, ?_, h2, Nat.succ_lt_succ h3⟩
      rw [List.findIdx?_cons, h1]; simp [q]
theorem findIdx_self : ∀ {l : List (List Nat)}, l.Nodup → ∀ i (h : i < l.length), l.findIdx (· == l[i]) = i
  | a :: l, nd, 0, _ => by rw [List.findIdx_cons]; simp
  | a :: l, nd, i + 1, h => by
    obtain ⟨n1, n2⟩ := List.nodup_cons.mp nd
    have h' : i < l.length := Nat.lt_of_succ_lt_succ h
    have q : a ≠ l[i] := fun e => n1 (by rw [e]; exact List.getElem_mem h')
    rw [List.findIdx_cons]
    show (bif a == l[i] then 0 else l.findIdx (· == l[i]) + 1) = i + 1
    rw [findIdx_self n2 i h', beq_eq_false_iff_ne.mpr q]; rfl
variable (n : Nat) (mark : List Nat) (weights : List Int) (ps l : List (List Nat))
theorem rows_p : rowsP (l.map (rowOf n mark weights ps)) = pathsD l := by
  unfold rowsP pathsD; rw [List.map_map, List.map_map]; rfl
theorem rows_l : rowsL (l.map (rowOf n mark weights ps)) = .lst (l.map leadD) := by
  unfold rowsL; rw [List.map_map]; rfl
theorem rows_r : rowsR (l.map (rowOf n mark weights ps)) = .lst (l.map fun p => D.str (S (enc (codes n) (p ++ mark)))) := by
  unfold rowsR; rw [List.map_map]; rfl
theorem rows_c (size : Nat) : D.lst ((l.map (rowOf n mark weights ps)).map fun r => .int (column size r.p)) = .lst (l.map fun p => .int (column size p)) := by
  rw [List.map_map]; rfl
theorem rows_w (nd : ps.Nodup) (hl : weights.length = ps.length) : rowsW (ps.map (rowOf n mark weights ps)) = .lst (weights.map .int) := by
  have : ps.map (fun p => weights.getD (ps.findIdx (· == p)) 0) = weights := by
    refine List.ext_getElem (by rw [List.length_map, hl]) fun i h1 h2 => ?_
    rw [List.length_map] at h1
    rw [List.getElem_map, findIdx_self nd i h1]
    simp [List.getD, List.getElem?_eq_getElem h2]
  unfold rowsW
  rw [List.map_map]
  conv => rhs; rw [← this, List.map_map]
  rfl
theorem rows_mp : (l.map (rowOf n mark weights ps)).map (·.p) = l := by
  rw [List.map_map, show ((fun r : Row => r.p) ∘ rowOf n mark weights ps) = id from rfl, List.map_id]
theorem rows_fit {l : List (List Nat)} (h : ∀ p ∈ l, p.length ≤ 100) : ∀ r ∈ l.map (rowOf n mark weights ps), (ws r.p).fit := fun r hr => by
  obtain ⟨p, hp, rfl⟩ := List.mem_map.mp hr
  exact ws_fit p (h p hp)
theorem rows_wr {l : List (List Nat)} (nd : l.Nodup) (key : ∀ p ∈ l, ∀ q ∈ l, keyOf n mark p = keyOf n mark q → p = q) : ((l.map (rowOf n mark weights ps)).map (·.wr)).Nodup := by
  rw [List.map_map]
  refine List.pairwise_map.mpr (nd.imp_of_mem fun {a b} ha hb hab q => hab (key a ha b hb ?_))
  have q : enc (codes n) (a ++ mark) = enc (codes n) (b ++ mark) := q
  unfold keyOf; rw [q]
theorem ents_look (f : Row → D) (R : List Nat → Row) (hR : ∀ p, (R p).p = p) (p : List Nat) : ∀ {ps : List (List Nat)}, p ∈ ps → ((ps.map R).map fun r => (S r.p, f r)).lookup (S p) = some (f (R p))
  | a :: ps, h => by
    rw [List.map_cons, List.map_cons]
    by_cases q : p = a
    · subst q; rw [hR]; exact lookup_cons_eq ..
    · have : S p ≠ S (R a).p := fun e => q ((S_inj.mp e).trans (hR a))
      rw [lookup_cons_ne this]
      exact ents_look f R hR p ((List.mem_cons.mp h).resolve_left q)
theorem ents_at (size : Nat) {l : List (List Nat)} (h : ∀ p ∈ l, p ∈ ps) : ∀ r ∈ l.map (rowOf n mark weights ps), ((ps.map (rowOf n mark weights ps)).map fun r => (S r.p, entOf size r)).lookup (S r.p) = some (entOf size r) := fun r hr => by
  obtain ⟨p, hp, rfl⟩ := List.mem_map.mp hr
  exact ents_look (entOf size) (rowOf n mark weights ps) (fun _ => rfl) p (h p hp)
section
variable {n : Nat} {mark : List Nat} {weights : List Int} {ps : List (List Nat)} {prog : Program} {w : World} {B : Base (K0.heap_1 w.params)} {cx : Cx} {Ψ : D → Prop}
theorem c_entriesP (hf : 5 ≤ cx.fuel) (hn : ps.Nodup) (hl : ps.length = 6) (hw : weights.length = 6) (hpl : ∀ p ∈ ps, p.length ≤ 100) (size : Nat) (h1 : 1 ≤ size) (h2 : size ≤ 1000) (z : Ψ (.dic ((ps.map (rowOf n mark weights ps)).map fun r => (S r.p, entOf size r)))) :
    JC prog w B cx (.ref 303) [pathsD ps, .lst (ps.map leadD), .lst (weights.map .int), .int size, .lst (ps.map fun p => D.str (S (enc (codes n) (p ++ mark))))] Ψ := by
  have E := c_entries (prog := prog) (w := w) (B := B) hf (ps.map (rowOf n mark weights ps)) size h1 h2 (rows_fit n mark weights ps hpl) (by rw [rows_mp]; exact hn) (by rw [List.length_map, hl]; decide) z
  rw [rows_p, rows_l, rows_r, rows_w n mark weights ps hn (by rw [hw, hl])] at E
  exact E
theorem c_branchesP (hf : 9 ≤ cx.fuel) {so : List (List Nat)} (hpo : ∀ p ∈ so, p ∈ ps) (nd : so.Nodup) (hl : so.length = 6) (hpl : ∀ p ∈ ps, p.length ≤ 100) (size kind : Nat) (hk : kind ≤ 2) (key : ∀ p ∈ ps, ∀ q ∈ ps, keyOf n mark p = keyOf n mark q → p = q)
    (fr bk : Nat → Nat) (hr : ∀ i, i < (so.map (rowOf n mark weights ps)).length → Reach (so.map (rowOf n mark weights ps)) kind fr bk i) (z : Ψ (.dic ((so.map (rowOf n mark weights ps)).zipIdx.map fun x => branchRow size (so.map (rowOf n mark weights ps)) fr bk x.2 x.1))) :
    JC prog w B cx (.ref 310) [pathsD so, .lst (so.map leadD), .dic ((ps.map (rowOf n mark weights ps)).map fun r => (S r.p, entOf size r)), .int kind] Ψ := by
  have E := c_branches (prog := prog) (w := w) (B := B) hf (so.map (rowOf n mark weights ps)) _ size kind hk (ents_at n mark weights ps size hpo) (rows_fit n mark weights ps fun p hp => hpl p (hpo p hp)) (by rw [rows_mp]; exact nd) (rows_wr n mark weights ps nd fun p hp q hq => key p (hpo p hp) q (hpo q hq)) (by rw [List.length_map, hl]; decide) fr bk hr z
  rw [rows_p, rows_l] at E
  exact E
theorem c_toldP (hf : 5 ≤ cx.fuel) (nd : ps.Nodup) (hl : ps.length = 6) (hw : weights.length = 6) (hpl : ∀ p ∈ ps, p.length ≤ 100) (size : Nat) (key : ∀ p ∈ ps, ∀ q ∈ ps, keyOf n mark p = keyOf n mark q → p = q)
    (z : Ψ (.dic ((ps.map (rowOf n mark weights ps)).map (toldRow (fun r => column size r.p) (ps.map (rowOf n mark weights ps)))))) :
    JC prog w B cx (.ref 324) [pathsD ps, .lst (weights.map .int), .lst (ps.map fun p => .int (column size p)), .lst (ps.map fun p => D.str (S (enc (codes n) (p ++ mark))))] Ψ := by
  have E := c_told (prog := prog) (w := w) (B := B) hf (ps.map (rowOf n mark weights ps)) (fun r => column size r.p) (fun r hr => by
    obtain ⟨p, hp, rfl⟩ := List.mem_map.mp hr
    have := hpl p hp
    show p.length ≤ 1000; omega) (by rw [rows_mp]; exact nd) (rows_wr n mark weights ps nd key) (by rw [List.length_map, hl]; decide) z
  rw [rows_p, rows_w n mark weights ps nd (by rw [hw, hl]), rows_c, rows_r] at E
  exact E
end
end

section
section
variable {prog : Program} {w : World} {B : Base (K0.heap_1 w.params)}

theorem law_ok (is : List Int) (hl : is.length ≤ 1000) (next : ∀ (cells : List Int) (draw : Int), cells.length = 5 → LawPart prog w B 2 LawQ [("draw", .int draw), ("cells", .lst (cells.map .int)), ("script", .lst (is.map .int))]) : LawOk prog w B is := by
  refine LawOk.of (by rfl) fun hk L fa cd O G s Q E S fin => ?_
  refine wpAny_execs_cons (first_call (cx := lawCx _ _ L fa cd hk) (fa := 263) S rfl rfl rfl rfl ⟨.inl rfl, rfl⟩ rfl (by kernel_rfl) (by kernel_rfl) rfl (Ψ := fun d => ∃ cells : List Int, cells.length = 5 ∧ d = .lst (cells.map .int)) (c_cells (by show 1 ≤ 40; decide) is (by omega) fun cells hc => ⟨cells, hc, rfl⟩) rfl fun h₁ t₁ G₁ d₁ k₁ S₁ tk₁ z₁ => ?_)
  obtain ⟨cells, hcells, rfl⟩ := z₁
  refine (?_ : WSs prog w B (lawCx _ _ L fa cd hk) _ LawQ [("cells", .lst (cells.map .int)), ("script", .lst (is.map .int))]) O G₁ { s with heap := h₁, toks := t₁ } Q E S₁ tk₁ fun f fl ρ' h' tk' O' G' k' S' p' t' e' => ?_
  rotate_left
  · subst e'
    cases f <;> first | exact p'.elim | skip
    obtain ⟨_, _, _, _, r⟩ := p'
    cases r
    exact fin h' tk' O' G' (k₁.trans k') (S'.weaken fun _ _ e => by cases e)
  -- draw
  refine WSs.cons (WS.assign ?_ ⟨.inl rfl, rfl⟩)
  walk_at "ev"
  refine WE.call1 (f := "sum") (fv := .builtin "sum") ?_ rfl (by kernel_rfl) (by kernel_rfl) fun K => Keeps.builtin
  refine WV.of (WE.comp [] [] rfl (WC.of (WV.of (WE.sliceL ?_))) rfl (by decide) (by decide) rfl Free.nil)
  walk_at "ev"
  refine ⟨by rw [List.length_map]; omega, WP.none (WP.some ?_)⟩
  walk_at "ev"
  obtain ⟨js, hjs, hjl⟩ := cut_ints is none (some 60)
  rw [hjs]
  refine ⟨_, .inl rfl, fun d => match d with | .int i => .int (i.fmod (10 ^ (6 : Int).toNat)) | d => d, ⟨?_, fun C d hd => ?_⟩, ?_⟩
  · rw [List.length_map]; omega
  · obtain ⟨i, _, rfl⟩ := List.mem_map.mp hd
    walk_at "ev"
    refine J2.pow (by decide) (by decide) (by decide) ?_
    walk_at "ev"
    · decide
    rfl
  rw [List.map_map]
  refine (?_ : J1 _ _ _ _ _ (D.lst (js.map fun i => D.int (i.fmod (10 ^ (6 : Int).toNat)))) _)
  rw [show (js.map fun i => D.int (i.fmod (10 ^ (6 : Int).toNat))) = (js.map fun i => i.fmod (10 ^ (6 : Int).toNat)).map D.int from (List.map_map (g := D.int)).symm]
  generalize (js.map fun i => i.fmod (10 ^ (6 : Int).toNat)) = xs
  refine J1.sum ?_
  walk_at "ev"
  generalize 5829 + xs.sum = draw
  exact next cells draw hcells (by rfl) hk L fa cd
end
end

section
section
variable {prog : Program} {w : World} {B : Base (K0.heap_1 w.params)}

theorem quarter (k : Nat) (h : k < 4) : k = 0 ∨ k = 1 ∨ k = 2 ∨ k = 3 := by omega
theorem Tree.head {blanks first : List Nat} : ∀ {ps : List (List Nat)}, Tree blanks first ps → ps[0]? = some first
  | _, .root => rfl
  | _, .grow (ps := ps) t hp he hn => by
    have := Tree.head t
    cases ps with
    | nil => cases this
    | cons x xs => exact this
theorem part2 (cells : List Int) (hc : cells.length = 5) (draw : Int) (sc : D) (next : ∀ (way : Int) (size : Nat) (blanks first : List Nat) (ps : List (List Nat)), way ≠ 0 → 2 ≤ size → size ≤ 5 → blanks ∈ allBlanks → Forest blanks first ps → ps[0]? = some first →
    LawPart prog w B 6 LawQ [("paths", pathsD ps), ("blanks", .str (S blanks)), ("size", .int size), ("way", .int way), ("draw", .int draw), ("cells", .lst (cells.map .int)), ("script", sc)]) : LawPart prog w B 2 LawQ [("draw", .int draw), ("cells", .lst (cells.map .int)), ("script", sc)] := by
  refine LawPart.of (by rfl) fun hk L fa cd => ?_
  -- way
  refine WSs.cons (WS.assign ?_ ⟨.inl rfl, rfl⟩)
  walk_at "ev"
  · decide
  · decide
  · decide
  obtain ⟨k1, hk1, e1⟩ := fmodN (draw.fdiv 105) 4 (by decide)
  have e1 : (draw.fdiv 105).fmod 4 = (k1 : Int) := e1
  rw [e1]
  obtain ⟨way, hway, hw0⟩ : ∃ way : Int, [D.int 1, D.int (-1), D.int 2, D.int (-3)][k1]? = some (.int way) ∧ way ≠ 0 := by
    rcases quarter k1 hk1 with rfl | rfl | rfl | rfl
    · exact ⟨1, rfl, by decide⟩
    · exact ⟨-1, rfl, by decide⟩
    · exact ⟨2, rfl, by decide⟩
    · exact ⟨-3, rfl, by decide⟩
  refine JG.tup (by omega) (by rw [Int.toNat_natCast]; exact hway) (by omega) ?_
  -- size
  refine WSs.cons (WS.assign ?_ ⟨.inr ⟨rfl, rfl, rfl⟩, rfl⟩)
  walk_at "ev"
  · decide
  · decide
  · decide
  obtain ⟨k2, hk2, e2⟩ := fmodN (draw.fdiv 420) 4 (by decide)
  have e2 : (draw.fdiv 420).fmod 4 = (k2 : Int) := e2
  rw [e2]
  obtain ⟨size, hsz⟩ : ∃ size : Nat, size = k2 + 2 := ⟨_, rfl⟩
  rw [show (k2 : Int) + 2 = (size : Int) by omega]
  -- blanks
  refine WSs.cons (WS.assign ?_ ⟨.inl rfl, rfl⟩)
  walk_at "ev"
  · decide
  · decide
  · decide
  obtain ⟨k3, hk3, e3⟩ := fmodN (draw.fdiv 1680) 4 (by decide)
  have e3 : (draw.fdiv 1680).fmod 4 = (k3 : Int) := e3
  rw [e3]
  obtain ⟨blanks, hbl, hb⟩ : ∃ blanks : List Nat, [D.str (Str.ofString " "), D.str (Str.ofString "   "), D.str (Str.ofString " \t"), D.str (Str.ofString "  \t")][k3]? = some (.str (S blanks)) ∧ blanks ∈ allBlanks := by
    rcases quarter k3 hk3 with rfl | rfl | rfl | rfl
    · exact ⟨[32], rfl, by decide⟩
    · exact ⟨[32, 32, 32], rfl, by decide⟩
    · exact ⟨[32, 9], rfl, by decide⟩
    · exact ⟨[32, 32, 9], rfl, by decide⟩
  refine JG.tup (by omega) (by rw [Int.toNat_natCast]; exact hbl) (by omega) ?_
  -- paths
  obtain ⟨k4, hk4, e4⟩ := fmodN (draw.fdiv 6720) 2 (by decide)
  have e4 : (draw.fdiv 6720).fmod 2 = (k4 : Int) := e4
  obtain ⟨first, hfi, hf⟩ : ∃ first : List Nat, [D.str (Str.ofString ""), D.str (Str.ofString " \t")][k4]? = some (.str (S first)) ∧ first ∈ [[], [32, 9]] := by
    have : k4 = 0 ∨ k4 = 1 := by omega
    rcases this with rfl | rfl
    · exact ⟨[], rfl, by decide⟩
    · exact ⟨[32, 9], rfl, by decide⟩
  have hfl : first.length ≤ 2 := by
    simp only [List.mem_cons, List.not_mem_nil, or_false] at hf
    rcases hf with rfl | rfl <;> decide
  refine WSs.cons (WS.assign (WE.callG (a := 270) (WA.of (WL.cons (WE.name rfl (WL.cons ?_ fun _ => rfl)) fun _ => rfl)) rfl (by kernel_rfl) (by kernel_rfl)) ⟨.inr ⟨rfl, rfl, rfl⟩, rfl⟩)
  walk_at "ev"
  · decide
  · decide
  · decide
  rw [e4]
  refine JG.tup (by omega) (by rw [Int.toNat_natCast]; exact hfi) (by omega) ?_
  walk_at "ev"
  obtain ⟨b1, b2, b3, b4⟩ := blanks_of hb
  refine c_paths (by show 1 ≤ 40; decide) cells hc first blanks hfl ⟨b3, b4⟩ fun ps t h6 => ?_
  exact next way size blanks first ps hw0 (by omega) (by omega) hb (forest hb hf t h6) t.head (by rfl) hk L fa cd
end
end

section
section
variable {prog : Program} {w : World} {B : Base (K0.heap_1 w.params)}

noncomputable def fLead : D → D | .str x => leadD x.cps.toList | d => d
noncomputable def fCol (n : Nat) : D → D | .str x => .int (column n x.cps.toList) | d => d
noncomputable def fWt : D → D | .int i => .int ((i.fdiv 32).fmod 100 - 50) | d => d
theorem fLead_map (ps : List (List Nat)) : ((ps.map S).map D.str).map fLead = ps.map leadD := by rw [List.map_map, List.map_map]; rfl
theorem fCol_map (n : Nat) (ps : List (List Nat)) : ((ps.map S).map D.str).map (fCol n) = ps.map fun p => .int (column n p) := by rw [List.map_map, List.map_map]; rfl
theorem fWt_map (l : List Int) : (l.map D.int).map fWt = (l.map fun i => (i.fdiv 32).fmod 100 - 50).map D.int := by rw [List.map_map, List.map_map]; rfl
theorem part3 (cells : List Int) (hc : cells.length = 5) (draw way : Int) (size : Nat) (hs2 : 2 ≤ size) (hs5 : size ≤ 5) (blanks first : List Nat) (ps : List (List Nat)) (F : Forest blanks first ps) (sc : D)
    (next : ∀ (ws : List Int) (drawn : List Nat), ws.length = 6 → drawn ∈ allMarks →
      LawPart prog w B 10 LawQ [("drawn", .str (S drawn)), ("weights", .lst (ws.map .int)), ("columns", .lst (ps.map fun p => .int (column size p))), ("leads", .lst (ps.map leadD)), ("paths", pathsD ps), ("blanks", .str (S blanks)), ("size", .int size), ("way", .int way), ("draw", .int draw), ("cells", .lst (cells.map .int)), ("script", sc)]) :
    LawPart prog w B 6 LawQ [("paths", pathsD ps), ("blanks", .str (S blanks)), ("size", .int size), ("way", .int way), ("draw", .int draw), ("cells", .lst (cells.map .int)), ("script", sc)] := by
  refine LawPart.of (by rfl) fun hk L fa cd => ?_
  have hpl : ∀ p ∈ ps, p.length ≤ 17 := fun p hp => by have := F.short p hp; have := F.low; omega
  -- leads
  refine WSs.cons (WS.assign (WE.comp [] [] rfl (WC.of (WV.of (WE.name rfl ⟨(ps.map S).map D.str, .inl rfl, fLead, ⟨?_, fun C d hd => ?_⟩, ?_⟩))) rfl (by decide) (by decide) rfl Free.nil) ⟨.inr ⟨rfl, rfl, rfl⟩, rfl⟩)
  · rw [List.length_map, List.length_map, F.six]; decide
  · obtain ⟨x, hx, rfl⟩ := List.mem_map.mp hd
    obtain ⟨p, hp, rfl⟩ := List.mem_map.mp hx
    have hl := hpl p hp
    refine WE.callG (a := 83) (WA.of (WL.cons ?_ fun _ => rfl)) rfl (by kernel_rfl) (by kernel_rfl)
    walk_at "ev"
    · show (S p).length + 3 ≤ _
      rw [S_length]
      exact Nat.le_trans (m := 20) (by omega) (Nat.le_of_ble_eq_true rfl)
    rw [show Str.ofString "x \t" = S [120, 32, 9] from rfl, S_append]
    exact c_lead (Nat.le_of_ble_eq_true rfl) p (F.blank p hp) (by omega) rfl
  rw [fLead_map]
  -- columns
  refine WSs.cons (WS.assignComp _ [("size", .int size)] rfl (WC.of (WV.of (WE.name rfl ⟨(ps.map S).map D.str, .inl rfl, fCol size, ⟨?_, fun C d hd => ?_⟩, ?_⟩))) ⟨.inl rfl, rfl⟩ rfl (by decide) (by decide) rfl (Free.cons Free.nil rfl (by decide) (.inl rfl) rfl (.inl rfl)) rfl)
  · rw [List.length_map, List.length_map, F.six]; decide
  · obtain ⟨x, hx, rfl⟩ := List.mem_map.mp hd
    obtain ⟨p, hp, rfl⟩ := List.mem_map.mp hx
    have hl := hpl p hp
    refine WE.callG (a := 317) (WA.of (WL.cons ?_ fun _ => rfl)) rfl (by kernel_rfl) (by kernel_rfl)
    walk_at "ev"
    exact c_column (Nat.le_of_ble_eq_true rfl) p size (by omega) (by omega) rfl
  rw [fCol_map]
  -- weights
  refine WSs.cons (WS.assign (WE.binop ?_) ⟨.inl rfl, rfl⟩)
  walk_at "ev"
  refine WE.comp [] [] rfl (WC.of (WV.of (WE.name rfl ⟨cells.map D.int, .inl rfl, fWt, ⟨?_, fun C d hd => ?_⟩, ?_⟩))) rfl (by decide) (by decide) rfl Free.nil
  · rw [List.length_map, hc]; decide
  · obtain ⟨i, hi, rfl⟩ := List.mem_map.mp hd
    walk_at "ev"
    · decide
    · decide
    · decide
    rfl
  rw [fWt_map]
  refine J2.lAdd ?_ ?_
  · rw [List.length_map, List.length_map, hc]; exact Nat.le_of_ble_eq_true rfl
  -- drawn
  refine @WSs.cons _ _ _ _ _ _ _ _ _ (@WS.assign _ _ _ _ _ _ _ _ _ _ _ ?_ ⟨.inl rfl, rfl⟩ rfl)
  walk_at "ev"
  · decide
  · decide
  · decide
  obtain ⟨k, hk7, e⟩ := fmodN (draw.fdiv 15) 7 (by decide)
  have e : (draw.fdiv 15).fmod 7 = (k : Int) := e
  rw [e]
  obtain ⟨drawn, hd, hm⟩ : ∃ drawn : List Nat, [D.str (Str.ofString "\n"), D.str (Str.ofString "\r"), D.str (Str.ofString "!"), D.str (Str.ofString "\""), D.str (Str.ofString "&"), D.str (Str.ofString "<"), D.str (Str.ofString ">")][k]? = some (.str (S drawn)) ∧ drawn ∈ allMarks := by
    have : k ∈ List.range 7 := List.mem_range.mpr hk7
    simp only [show List.range 7 = [0, 1, 2, 3, 4, 5, 6] from rfl, List.mem_cons, List.not_mem_nil, or_false] at this
    rcases this with rfl | rfl | rfl | rfl | rfl | rfl | rfl
    · exact ⟨[10], rfl, by decide⟩
    · exact ⟨[13], rfl, by decide⟩
    · exact ⟨[33], rfl, by decide⟩
    · exact ⟨[34], rfl, by decide⟩
    · exact ⟨[38], rfl, by decide⟩
    · exact ⟨[60], rfl, by decide⟩
    · exact ⟨[62], rfl, by decide⟩
  refine JG.tup (by omega) (by rw [Int.toNat_natCast]; exact hd) (by omega) ?_
  exact next (3 :: cells.map fun i => (i.fdiv 32).fmod 100 - 50) drawn (by rw [List.length_cons, List.length_map, hc]) hm (by rfl) hk L fa cd
end
end

section
section
variable {prog : Program} {w : World} {B : Base (K0.heap_1 w.params)}

theorem part4 (cells weights : List Int) (drawn : List Nat) (hm : drawn ∈ allMarks) (draw way : Int) (size : Nat) (blanks : List Nat) (ps : List (List Nat)) (sc : D)
    (next : ∀ (n : Nat) (mark : List Nat), n ≤ 4 → mark ∈ allMarks →
      LawTurn prog w B 0 (fun fl ρ' => fl = .next ∧ Has ρ' (lawEnv weights drawn size way draw blanks ps)) (("mark", .str (S mark)) :: ("number", .int n) :: lawEnv weights drawn size way draw blanks ps)) :
    LawPart prog w B 10 LawQ [("drawn", .str (S drawn)), ("weights", .lst (weights.map .int)), ("columns", .lst (ps.map fun p => .int (column size p))), ("leads", .lst (ps.map leadD)), ("paths", pathsD ps), ("blanks", .str (S blanks)), ("size", .int size), ("way", .int way), ("draw", .int draw), ("cells", .lst (cells.map .int)), ("script", sc)] := by
  refine LawPart.of (by rfl) fun hk L fa cd => ?_
  refine WSs.for (WI.of ?_)
  walk_at "ev"
  · decide
  · decide
  · decide
  · decide
  obtain ⟨n1, h1, e1⟩ := fmodN draw 3 (by decide)
  have e1 : draw.fmod 3 = (n1 : Int) := e1
  obtain ⟨n2, h2, e2⟩ := fmodN (draw.fdiv 3) 5 (by decide)
  have e2 : (draw.fdiv 3).fmod 5 = (n2 : Int) := e2
  rw [e1, e2]
  refine JI.tup (.inr ⟨_, _, _, rfl⟩) ?_
  let two (x : Nat × List Nat) : D := .tup [.int x.1, .str (S x.2)]
  refine ⟨List (Nat × List Nat), fun ds l => ds = l.map two ∧ ∀ x ∈ l, x.1 ≤ 4 ∧ x.2 ∈ allMarks, fun _ => lawEnv weights drawn size way draw blanks ps, [(n1, []), (n2, drawn)], ⟨rfl, fun x hx => ?_⟩, ⟨rfl, rfl, rfl, rfl, rfl, rfl, rfl, rfl, rfl, trivial⟩, ?_, ?_⟩
  · simp only [List.mem_cons, List.not_mem_nil, or_false] at hx
    rcases hx with rfl | rfl
    · exact ⟨by show n1 ≤ 4; omega, by show [] ∈ allMarks; decide⟩
    · exact ⟨by show n2 ≤ 4; omega, hm⟩
  · rintro d r l ⟨f1, f2⟩
    cases l with
    | nil => cases f1
    | cons x l =>
      have f1 : d :: r = two x :: l.map two := f1
      injection f1 with a b
      subst a b
      obtain ⟨x1, x2⟩ := f2 x (List.mem_cons_self ..)
      refine WT.tuple (names := [("number", _), ("mark", _)]) rfl (fun n hn => ?_) rfl ?_
      · simp only [List.mem_cons, List.not_mem_nil, or_false] at hn
        rcases hn with rfl | rfl
        · exact ⟨.inr ⟨rfl, rfl, rfl⟩, rfl⟩
        · exact ⟨.inr ⟨rfl, rfl, rfl⟩, rfl⟩
      · have T := next x.1 x.2 x1 x2 (by rfl) hk L fa cd rfl
        exact fun O G s Q E S tk R => T O G s Q E S tk fun f fl ρ' h' tk' O' G' st S' fr t y => R f fl ρ' h' tk' O' G' st S' fr t (by
          obtain ⟨rfl, y⟩ := y
          exact ⟨l, ⟨rfl, fun z hz => f2 z (List.mem_cons_of_mem _ hz)⟩, y⟩)
  · rintro l ⟨f1, f2⟩
    refine WSs.cons (WS.ret (WE.bool ?_))
    exact rfl
end
end

section
section
variable {prog : Program} {w : World} {B : Base (K0.heap_1 w.params)}

noncomputable def fTwo : D → D | .tup [_, b] => b | d => d
noncomputable def fSpell (n : Nat) : D → D | .str x => .tup [.str (S (enc (codes n) x.cps.toList)), .str x] | d => d
theorem part5 (n : Nat) (hn : n ≤ 4) (mark first : List Nat) (hm : mark ∈ allMarks) (weights : List Int) (drawn : List Nat) (size : Nat) (way draw : Int) (blanks : List Nat) (hb : blanks ∈ allBlanks) (ps : List (List Nat)) (F : Forest blanks first ps) (Φ : Fl → List (Str × D) → Prop)
    (next : ∀ (plan : List (List Nat)) (kind : Nat), Turn3 n blanks mark first ps plan kind → LawTurn prog w B 1 Φ (("plan", pathsD plan) :: turnEnv mark n weights drawn size way draw blanks ps)) :
    LawTurn prog w B 0 Φ (turnEnv mark n weights drawn size way draw blanks ps) := by
  refine LawTurn.of (by rfl) rfl fun hk L fa cd => ?_
  have g := good3 hn hb hm
  refine WSs.cons (WS.assignComp _ [] rfl (WC.of (WV.of (WE.call1 (f := "sorted") (fv := .builtin "sorted") ?_ rfl (by kernel_rfl) (by kernel_rfl) fun K => Keeps.builtin))) ⟨.inl rfl, rfl⟩ rfl (by decide) (by decide) rfl Free.nil rfl)
  refine WV.of (WE.comp _ [("number", .int n)] rfl (WC.of (WV.of (WE.tuple ?_))) rfl (by decide) (by decide) rfl (Free.cons Free.nil rfl (by decide) (.inl rfl) rfl (.inl rfl)))
  walk_at "ev"
  have hlen : ∀ l ∈ [[9], blanks, mark], l.length ≤ 1000 := fun l hl => by
    have := (blanks_of hb).2.2.2
    have := mark_len hm
    simp only [List.mem_cons, List.not_mem_nil, or_false] at hl
    rcases hl with rfl | rfl | rfl
    · exact Nat.le_of_ble_eq_true rfl
    · omega
    · omega
  refine ⟨_, .inr rfl, fSpell n, ⟨Nat.le_of_ble_eq_true rfl, fun C d hd => ?_⟩, ?_⟩
  · obtain ⟨l, hl, rfl⟩ : ∃ l ∈ [[9], blanks, mark], d = .str (S l) := by
      simp only [List.mem_cons, List.not_mem_nil, or_false] at hd
      rcases hd with rfl | rfl | rfl
      · exact ⟨[9], by simp, rfl⟩
      · exact ⟨blanks, by simp, rfl⟩
      · exact ⟨mark, by simp, rfl⟩
    have hl := hlen l hl
    refine WE.tuple (WL.cons (WE.callG (a := 284) (WA.of (WL.cons ?_ fun _ => rfl)) rfl (by kernel_rfl) (by kernel_rfl)) fun _ => rfl)
    walk_at "ev"
    refine c_spelled (Nat.le_of_ble_eq_true rfl) n hn l hl ?_
    walk_at "ev"
    rfl
  refine (?_ : J1 _ _ _ _ _ (D.lst [pairD (S (enc (codes n) [9]), S [9]), pairD (S (enc (codes n) blanks), S blanks), pairD (S (enc (codes n) mark), S mark)]) _)
  refine J1.sorted3 (fun q => g.tb (S_inj.mp q)) (fun q => g.tm (S_inj.mp q)) (fun q => g.bm (S_inj.mp q)) fun out hp hs => ?_
  let plan : List (List Nat) := out.map fun q => q.2.cps.toList
  have hmem : ∀ q ∈ out, q.1 = S (enc (codes n) q.2.cps.toList) := fun q hq => by
    have := hp.mem_iff.mp hq
    simp only [List.mem_cons, List.not_mem_nil, or_false] at this
    rcases this with rfl | rfl | rfl <;> rfl
  have p1 : plan.Perm [[9], blanks, mark] := hp.map fun q : Str × Str => q.2.cps.toList
  have p2 : plan.Pairwise fun x y => sLt (S (enc (codes n) x)) (S (enc (codes n) y)) := List.pairwise_map.mpr (hs.imp_of_mem fun {a b} ha hb h => by rw [← hmem a ha, ← hmem b hb]; exact h)
  obtain ⟨kind, T⟩ := turn3 hn hb hm F p1 p2
  have hplan : (out.map pairD).map fTwo = (plan.map S).map D.str := by
    show _ = ((out.map fun q => q.2.cps.toList).map S).map D.str
    rw [List.map_map, List.map_map, List.map_map]; rfl
  refine ⟨out.map pairD, .inl rfl, fTwo, ⟨?_, fun C d hd => ?_⟩, ?_⟩
  · rw [List.length_map, hp.length_eq]; exact Nat.le_of_ble_eq_true rfl
  · obtain ⟨q, hq, rfl⟩ := List.mem_map.mp hd
    walk_at "ev"
    exact JG.tup (d := .str q.2) (by decide) rfl (by decide) rfl
  rw [hplan]
  exact next plan kind T (by rfl) hk L fa cd rfl
end
end

section
section
variable {prog : Program} {w : World} {B : Base (K0.heap_1 w.params)}

theorem part6 (n : Nat) (hn : n ≤ 4) (mark first : List Nat) (hm : mark ∈ allMarks) (weights : List Int) (drawn : List Nat) (size : Nat) (way draw : Int) (hw0 : way ≠ 0) (blanks : List Nat) (ps : List (List Nat)) (F : Forest blanks first ps) (h0 : ps[0]? = some first) (Φ : Fl → List (Str × D) → Prop)
    (plan : List (List Nat)) (kind : Nat) (T : Turn3 n blanks mark first ps plan kind)
    (next : ∀ so : List (List Nat), so.Perm ps → so = walkN ps plan mark 20 first → LawTurn prog w B 3 Φ (("order", pathsD so) :: ("plan", pathsD plan) :: turnEnv mark n weights drawn size way draw blanks ps)) :
    LawTurn prog w B 1 Φ (("plan", pathsD plan) :: turnEnv mark n weights drawn size way draw blanks ps) := by
  refine LawTurn.of (by rfl) rfl fun hk L fa cd => ?_
  have hml := mark_len hm
  have hpl : ∀ p ∈ ps, p.length ≤ 100 := fun p hp => by have := F.short p hp; have := F.low; omega
  -- order
  refine WSs.cons (WS.assign (WE.callG (a := 289) (WA.of ?_) rfl (by kernel_rfl) (by kernel_rfl)) ⟨.inl rfl, rfl⟩)
  walk_at "ev"
  refine c_sorted (Nat.le_of_ble_eq_true rfl) ps n hn mark way hw0 hpl (by omega) (by rw [F.six]; decide) T.key F.nodup fun so h1 h2 => ?_
  have h3 := T.order so h1 h2
  -- if order != walk
  refine WSs.cons (WS.if (WB.compareE (WE.name rfl (WE.callG (a := 296) (WA.of (WL.cons (WE.name rfl (WL.cons (WE.sub ?_) fun _ => rfl)) fun _ => rfl)) rfl (by kernel_rfl) (by kernel_rfl)))))
  walk_at "ev"
  refine JG.lst (d := .str (S first)) (by decide) ?_ (by decide) ?_
  · show ((ps.map S).map D.str)[0]? = _
    rw [List.getElem?_map, List.getElem?_map, h0]; rfl
  walk_at "ev"
  refine c_walk ps plan mark hpl T.steps T.small 20 _ _ first (Nat.le_of_ble_eq_true rfl) F.root (fun q hq => ?_) ?_
  · have := F.short q hq; omega
  rw [← h3]
  refine J2E.neL (by show 4 + 3 < cLine; decide) ⟨_, rfl, ?_⟩
  refine iteF (by decide) ?_
  refine WSs.nil ?_
  exact next so h1 h3 (by rfl) hk L fa cd rfl
end
end

section
section
variable {prog : Program} {w : World} {B : Base (K0.heap_1 w.params)}

theorem part7 (n : Nat) (hn : n ≤ 4) (mark first : List Nat) (hm : mark ∈ allMarks) (weights : List Int) (hw6 : weights.length = 6) (drawn : List Nat) (size : Nat) (hs2 : 2 ≤ size) (hs5 : size ≤ 5) (way draw : Int) (blanks : List Nat) (ps : List (List Nat)) (F : Forest blanks first ps) (Φ : Fl → List (Str × D) → Prop)
    (plan : List (List Nat)) (so : List (List Nat))
    (next : LawTurn prog w B 4 Φ (("entries", .dic ((ps.map (rowOf n mark weights ps)).map fun r => (S r.p, entOf size r))) :: ("order", pathsD so) :: ("plan", pathsD plan) :: turnEnv mark n weights drawn size way draw blanks ps)) :
    LawTurn prog w B 3 Φ (("order", pathsD so) :: ("plan", pathsD plan) :: turnEnv mark n weights drawn size way draw blanks ps) := by
  refine LawTurn.of (by rfl) rfl fun hk L fa cd => ?_
  have hml := mark_len hm
  have hpl : ∀ p ∈ ps, p.length ≤ 100 := fun p hp => by have := F.short p hp; have := F.low; omega
  refine WSs.cons (WS.assign (WE.callG (a := 303) (WA.of ?_) rfl (by kernel_rfl) (by kernel_rfl)) ⟨.inl rfl, rfl⟩)
  walk_at "ev"
  refine WE.comp _ [("number", .int n), ("mark", .str (S mark))] rfl (WC.of (WV.of (WE.name rfl ⟨(ps.map S).map D.str, .inl rfl, fHand n mark, ⟨?_, fun C d hd => ?_⟩, ?_⟩))) rfl (by decide) (by decide) rfl (Free.cons (Free.cons Free.nil rfl (by decide) (.inl rfl) rfl (.inl rfl)) rfl (by decide) (.inl rfl) rfl (.inl rfl))
  · rw [List.length_map, List.length_map, F.six]; decide
  · obtain ⟨x, hx, rfl⟩ := List.mem_map.mp hd
    obtain ⟨p, hp, rfl⟩ := List.mem_map.mp hx
    have hl := hpl p hp
    refine WE.callG (a := 277) (WA.of ?_) rfl (by kernel_rfl) (by kernel_rfl)
    walk_at "ev"
    · rw [S_length, S_length]
      exact Nat.le_trans (m := 101) (by omega) (Nat.le_of_ble_eq_true rfl)
    rw [S_append]
    exact c_hand (Nat.le_of_ble_eq_true rfl) n hn (p ++ mark) (by rw [List.length_append]; omega) rfl
  rw [fHand_map]
  walk_at "ev"
  refine c_entriesP (Nat.le_of_ble_eq_true rfl) F.nodup F.six hw6 hpl size (by omega) (by omega) ?_
  exact next (by rfl) hk L fa cd rfl
end
end

section
section
variable {prog : Program} {w : World} {B : Base (K0.heap_1 w.params)}

theorem part8 (n : Nat) (hn : n ≤ 4) (mark first : List Nat) (hm : mark ∈ allMarks) (weights : List Int) (hw6 : weights.length = 6) (drawn : List Nat) (size : Nat) (hs2 : 2 ≤ size) (way draw : Int) (blanks : List Nat) (ps : List (List Nat)) (F : Forest blanks first ps) (Φ : Fl → List (Str × D) → Prop)
    (plan : List (List Nat)) (kind : Nat) (T : Turn3 n blanks mark first ps plan kind) (so : List (List Nat)) (hso : so.Perm ps) (hwk : so = walkN ps plan mark 20 first) (fin : ∀ ρ, Has ρ (lawEnv weights drawn size way draw blanks ps) → Φ .next ρ) :
    LawTurn prog w B 4 Φ (("entries", .dic ((ps.map (rowOf n mark weights ps)).map fun r => (S r.p, entOf size r))) :: ("order", pathsD so) :: ("plan", pathsD plan) :: turnEnv mark n weights drawn size way draw blanks ps) := by
  refine LawTurn.of (by rfl) rfl fun hk L fa cd => ?_
  have hml := mark_len hm
  have hpl : ∀ p ∈ ps, p.length ≤ 100 := fun p hp => by have := F.short p hp; have := F.low; omega
  have hpo : ∀ p ∈ so, p ∈ ps := fun p hp => hso.mem_iff.mp hp
  have so6 : so.length = 6 := hso.length_eq.trans F.six
  have nds : so.Nodup := hso.nodup_iff.mpr F.nodup
  obtain ⟨fr, bk, hr, sm⟩ := turn_same T F (rowOf n mark weights ps) (fun _ => rfl) (fun _ => rfl) size (by omega) so hso hwk
  -- found
  refine WSs.cons (WS.assign (WE.callG (a := 310) (WA.of (WL.cons (WE.name rfl (WL.cons ?_ fun _ => rfl)) fun _ => rfl)) rfl (by kernel_rfl) (by kernel_rfl)) ⟨.inl rfl, rfl⟩)
  refine WE.comp _ [("leads", .lst (ps.map leadD)), ("paths", pathsD ps)] rfl (WC.of (WV.of (WE.name rfl ⟨(so.map S).map D.str, .inl rfl, fPick, ⟨?_, fun C d hd => ?_⟩, ?_⟩))) rfl (by decide) (by decide) rfl (Free.cons (Free.cons Free.nil rfl (by decide) (.inl rfl) rfl (.inl rfl)) rfl (by decide) (.inl rfl) rfl (.inl rfl))
  · rw [List.length_map, List.length_map, so6]; decide
  · obtain ⟨x, hx, rfl⟩ := List.mem_map.mp hd
    obtain ⟨p, hp, rfl⟩ := List.mem_map.mp hx
    obtain ⟨j, j1, j2, j3⟩ := findIdx_at (hpo p hp)
    refine WE.sub (WV.of (WE.name rfl (WV.of ?_)))
    refine WE.index (WE.name rfl ⟨ps.map S, rfl, ?_, WE.name rfl ⟨S p, j, rfl, ?_, ?_⟩⟩)
    · rw [List.length_map, F.six]; decide
    · rw [findIdx_S]; exact j1
    refine JG.lst (d := leadD p) (by omega) ?_ ?_ rfl
    · rw [Int.toNat_natCast, List.getElem?_map, j2]; rfl
    · rw [F.six] at j3; omega
  rw [fPick_map]
  refine WL.cons (WE.name rfl (WL.cons ?_ fun _ => rfl)) fun _ => rfl
  refine WE.index (WE.name rfl ⟨plan.map S, rfl, ?_, WE.name rfl ⟨S mark, kind, rfl, ?_, ?_⟩⟩)
  · rw [List.length_map, T.ok.perm.length_eq]; exact Nat.le_of_ble_eq_true rfl
  · rw [findIdx_S]; exact T.ok.at_
  refine WL.nil ?_
  refine c_branchesP (Nat.le_of_ble_eq_true rfl) hpo nds so6 hpl size kind T.kind2 T.key fr bk hr ?_
  -- if found != told
  refine WSs.cons (WS.if (WB.compareE (WE.name rfl (WE.callG (a := 324) (WA.of ?_) rfl (by kernel_rfl) (by kernel_rfl)))))
  walk_at "ev"
  refine WE.comp _ [("number", .int n), ("mark", .str (S mark))] rfl (WC.of (WV.of (WE.name rfl ⟨(ps.map S).map D.str, .inl rfl, fHand n mark, ⟨?_, fun C d hd => ?_⟩, ?_⟩))) rfl (by decide) (by decide) rfl (Free.cons (Free.cons Free.nil rfl (by decide) (.inl rfl) rfl (.inl rfl)) rfl (by decide) (.inl rfl) rfl (.inl rfl))
  · rw [List.length_map, List.length_map, F.six]; decide
  · obtain ⟨x, hx, rfl⟩ := List.mem_map.mp hd
    obtain ⟨p, hp, rfl⟩ := List.mem_map.mp hx
    have hl := hpl p hp
    refine WE.callG (a := 284) (WA.of ?_) rfl (by kernel_rfl) (by kernel_rfl)
    walk_at "ev"
    · rw [S_length, S_length]
      exact Nat.le_trans (m := 101) (by omega) (Nat.le_of_ble_eq_true rfl)
    rw [S_append]
    exact c_spelled (Nat.le_of_ble_eq_true rfl) n hn (p ++ mark) (by rw [List.length_append]; omega) rfl
  rw [fHand_map]
  walk_at "ev"
  refine c_toldP (Nat.le_of_ble_eq_true rfl) F.nodup F.six hw6 hpl size T.key ?_
  refine J2E.neD (n := 4) sm (by show 4 + 3 + 2 * 5 < cLine; decide) ⟨_, rfl, ?_⟩
  refine iteF (by decide) ?_
  refine WSs.nil (WSs.nil (fin _ ⟨rfl, rfl, rfl, rfl, rfl, rfl, rfl, rfl, rfl, trivial⟩))
end
end

section
section
variable {prog : Program} {w : World} {K : Frag} {B : Base K} {G : GMap}

theorem ints_rep : ∀ {vs : List Value} {is : List Int}, IntsAre vs is → RepL prog w G vs (is.map .int)
  | _, _, .nil => .nil
  | _, _, .cons i t l => .cons (.int i t) (ints_rep l)
theorem well_list {P : Params} {h : Heap} {a : Addr} {is : List Int} {us : List Value} (W : Well P h (.ref a) (ofPy (PyData.list (is.map PyData.int)))) (hl : h.IsList a us.toArray) (hi : IntsAre us is) : ∃ vs n, h.get? a = some (lstO vs n) ∧ RepL prog w G vs (is.map .int) := by
  have W : Well P h (.ref a) (.list (ofPys (is.map PyData.int))) := W
  cases W with
  | list h1 h2 =>
    obtain ⟨o, e, _, n, ed⟩ := hl
    rw [h1] at e
    cases e
    obtain ⟨e2, _⟩ := Data.seq.inj ed
    have e2 := List.toArray_inj e2
    subst e2
    exact ⟨_, _, h1, ints_rep hi⟩

theorem law_start {qual : Str} {scope : Scope} {fa : Addr} {cd : Value} (hk : scope.kind = .function) {h₁ : Heap} {m : Str → Option Value} {cs : List (Addr × Obj)} (F : Fr B.h B.h.objs.size h₁ m) (N : News B.h B.h.objs.size h₁ cs) (hd : ∀ p ∈ cs, ∃ v, p.2.data = .cell v)
    (hc : (cellsFrom (B.h.objs.size + 1) scope.names []).map (·.2) = cs.map (·.1)) (hn : (cs.map (·.1)).Nodup) {a : Addr} {vs : List Value} {n : Nat} {is : List Int} (ha : B.h.get? a = some (lstO vs n)) (hr : RepL prog w B.h.get? vs (is.map .int))
    (hs : scope.names.lookup ("script" : Str) = some .local) (hm : m ("script" : Str) = some (.ref a)) : St prog w B (lawCx qual scope B.h.objs.size fa cd hk) (B.h.objs.size :: cs.map (·.1)) B.h.get? h₁ [("script", .lst (is.map .int))] := by
  refine ⟨fun _ _ e => e, F.keep, fun b hb => ?_, fun _ => ⟨?_, fun p hp => ?_⟩, (fun _ q => nomatch q), m, [], F.ns, ?_, ?_, fun x d e => ?_⟩
  · rcases List.mem_cons.mp hb with rfl | hb
    · obtain ⟨o, _, _, e, _⟩ := F.ns
      exact ⟨get_size _, o, e⟩
    · obtain ⟨p, hp, rfl⟩ := List.mem_map.mp hb
      exact ⟨N.fresh (a := p.1) (o := p.2) hp, p.2, N.get (a := p.1) (o := p.2) hp⟩
  · exact hc ▸ hn
  · have : p.2 ∈ cs.map (·.1) := hc ▸ List.mem_map.mpr ⟨p, hp, rfl⟩
    obtain ⟨q, hq, e⟩ := List.mem_map.mp this
    obtain ⟨v, hv⟩ := hd q hq
    exact ⟨List.mem_cons_of_mem _ this, v, q.2, e ▸ N.get (a := q.1) (o := q.2) hq, hv⟩
  · exact List.nodup_cons.mpr ⟨List.not_mem_nil, List.nodup_nil⟩
  · intro b hb
    exact List.mem_cons.mpr (.inl ((List.mem_cons.mp hb).resolve_right List.not_mem_nil))
  · by_cases q : x = ("script" : Str)
    · subst q; rw [lookup_cons_eq] at e; cases e
      exact .loc hs rfl hm (.lst ha hr)
    · rw [lookup_cons_ne q] at e; cases e
end
end

section
theorem law_all {prog : Program} {w : World} {B : Base (K0.heap_1 w.params)} (is : List Int) (hl : is.length ≤ 1000) : LawOk prog w B is :=
  law_ok is hl fun cells draw hc => part2 cells hc draw _ fun way size blanks first ps hw h2 h5 hb F h0 => part3 cells hc draw way size h2 h5 blanks first ps F _ fun ws drawn hw6 hm =>
    part4 cells ws drawn hm draw way size blanks ps _ fun n mark hn hm' => part5 n hn mark first hm' ws drawn size way draw blanks hb ps F _ fun plan kind T =>
      part6 n hn mark first hm' ws drawn size way draw hw blanks ps F h0 _ plan kind T fun so h1 h3 => part7 n hn mark first hm' ws hw6 drawn size h2 h5 way draw blanks ps F _ plan so
        (part8 n hn mark first hm' ws hw6 drawn size h2 way draw blanks ps F _ plan kind T so h1 h3 fun ρ h => ⟨rfl, h⟩)
end

end Mine
open PySem.Calls
theorem Mine.five_nodup (L : Nat) : [L + 1 + 1 + 1 + 1 + 1, L + 1 + 1 + 1 + 1, L + 1 + 1 + 1, L + 1 + 1, L + 1].Nodup := by
  simp only [List.nodup_cons, List.mem_cons, List.not_mem_nil, or_false, not_or, not_false_eq_true, List.nodup_nil, and_true]
  omega
local macro_rules | `(tactic| k_qdec) => `(tactic| decide +kernel)
theorem PySem.Challenge.cw_zo0038_01_holds : PySem.Challenge.rw_zo0038_01.Holds := by
  w_on
  refine holds_law Mine.said fun said => ?_
  refine holds_open (q := Mine.hView) (loose := ["Whitespace"]) (Xt := Mine.hXt) (XP := XL Mine.hView []) (Yf := Mine.hHook.obs) (Ya := Mine.hHook.val) (YP := Mine.hHook.says) (N := 3986) Mine.left Mine.hHook.of Mine.hHook.keeps (fun s e => xl_of s (Bool.and_eq_true_iff.mp e).1) XL.keeps
    (by rfl) (by rfl) (by rfl) (fun s e => recFacts_of (Bool.and_eq_true_iff.mp e).2) (by rfl) (by first | assumption | decide +kernel) (by decide +kernel) ⟨rfl, rfl, rfl, rfl, rfl, by decide +kernel⟩ ?hw ?hc
  case hw => w_witness2
  case hc =>
    unfold Mine.hHook
    k_go0
    (all_goals try k_fold)
    rename_i w s₀ s₁ mg mb Gr Y fa ob pm doc ho hg KX X V GL T Tb TE TW w14 w13 M w12 w11 hcd is hs hlay hL1 hr1 hl2 w9 w8 a vs0 w5 hL ra W r0 hI hr hcond hcond2 K0 hD h₁ tk F w4 w3 w2 w1 w0 d4 d3 d2 d1 d0 N X0
    obtain ⟨vs, n, ha, hrep⟩ := Mine.well_list (prog := PySem.Challenge.rw_zo0038_01.row.prog) (w := w) (G := s₁.heap.get?) W hL hI
    have e329 := (rfl : (Mine.K0.heap_1 w.params).lookup 329 = _)
    let B : Mine.Base (Mine.K0.heap_1 w.params) := ⟨mg, mb, s₁.heap, KX, T.g, T.b, T.nolimit, T.builtins⟩
    have hlen : is.length ≤ 1000 := by have := Int.not_lt.mp hcond; omega
    refine Mine.law_all (B := B) is hlen (by rfl) (by rfl) s₁.heap.objs.size _ _ _ _ _ _ _ (Mine.law_start (B := B) rfl (cs := [(_, w4), (_, w3), (_, w2), (_, w1), (_, w0)]) F N ?_ rfl ?_ ha hrep rfl ?_) fun h' tk' O' G' k S' => ?_
    · intro p hp
      simp only [List.mem_cons, List.not_mem_nil, or_false] at hp
      rcases hp with rfl | rfl | rfl | rfl | rfl
      · exact ⟨_, d4⟩
      · exact ⟨_, d3⟩
      · exact ⟨_, d2⟩
      · exact ⟨_, d1⟩
      · exact ⟨_, d0⟩
    · exact Mine.five_nodup _
    · rfl
    · obtain ⟨m', μ, hns, _⟩ := S'.fr
      have F' : Fr s₁.heap s₁.heap.objs.size h' m' := ⟨hns, fun b o e => S'.keep b o (k.gg b o e), Nat.le_refl _⟩
      exact goodW_bool F' hg (raisesW_false (by wrow_none_raised)) (postW_of rfl rfl (by first | decide | with_unfolding_all rfl | (unfold PySem.W.same; rfl) | simp [PySem.W.same]))
