import PyProof.Rows.All
import Wide.All
import OpenK.AllK
import Wide.FinOn
import PySem.Challenge.RW_tv0050_01
set_option Elab.async false
set_option maxRecDepth 100000
set_option maxHeartbeats 0
set_option linter.all false
section
open PySem PySem.W PyProof.Rows
namespace Mine
noncomputable def view : Program := { PySem.Challenge.pw_tv0050_01 with main := { PySem.Challenge.pw_tv0050_01.main with body := [0, 2, 4, 5, 6, 7, 8, 9, 10, 15, 17, 18, 19, 20, 21, 22, 23, 24].filterMap fun i => PySem.Challenge.pw_tv0050_01.main.body[i]? } }
noncomputable def topFromQ (tb : String → Option Builtin) (p : Program) (w : World) (N : Nat) (s₀ : Shared) : Option Shared :=
  match s₀.heap.isNs mainGlobals && s₀.gens.size == 0 with
  | true => (PySem.W.Fast.tw14082659384304107361 tb p w s₀.heap.objs.size (s₀.heap.nsMap mainGlobals "__annotations__") N s₀ (topStub p)).bind fun s₁ => match staticsOk (importedModules p.main.body) s₀.heap s₁.heap && namesBound p s₁.heap && gensDone s₁ && laidKept s₀.heap s₁.heap with
    | true => some s₁
    | false => none
  | false => none
theorem topFrom_quick : @topFrom = @topFromQ := by
  have h := PySem.W.Fast.te14082659384304107361
  funext tb p w N s₀
  unfold topFrom topFromQ
  rw [h]; rfl
theorem left_quick {p q : Program} {loose : List Str} {Xt : Shared → Bool} {α : Type} {Yf : Shared → α} {Ya : World → α} {N : Nat} {g0 : Bool} (row : String)
    (h : ∀ w : World, (fencedOpening PySem.W.Fast.tw14364793385576792824 p w N).map (fun s₀ =>
        ((topFromQ PySem.W.Fast.tw14364793385576792824 p (w.withFollow row false) N s₀).map (fun s => (PySem.W.Fast.tw4187177175401517315 q loose (importedModules p.main.body) Xt g0 s, Yf s)),
         (topFromQ PySem.W.Fast.tw14364793385576792824 p (w.withFollow row true) N s₀).map (fun s => (PySem.W.Fast.tw4187177175401517315 q loose (importedModules p.main.body) Xt g0 s, Yf s)))) =
      some (some (openGood q loose, Ya (w.withFollow row false)), some (openGood q loose, Ya (w.withFollow row true)))) : LeftO p q loose Xt Yf Ya N g0 := by
  rw [← topFrom_quick, ← PySem.W.Fast.te14364793385576792824, ← PySem.W.Fast.te4187177175401517315] at h
  exact LeftO.of_split row h
theorem said : PySem.Challenge.rw_tv0050_01.wellSaid = true := by kernel_rfl
set_option hygiene false
local macro_rules | `(tactic| o_law) => `(tactic| refine holds_law Mine.said fun said => ?_)
local macro_rules | `(tactic| o_head $H) => `(tactic| (
  refine holds_open (q := Mine.view) (loose := [PySem.Str.ofString "Whitespace", PySem.Str.ofString "insort_right", PySem.Str.ofString "bisect_right"])
    (Xt := fun s => xlAt Mine.view [] s && recOk (RowW.records PySem.Challenge.rw_tv0050_01.row.toRowW) s) (XP := XL Mine.view []) (Yf := Hook.obs $H) (Ya := Hook.val $H) (YP := Hook.says $H) (N := 2954) ?hl (Hook.of $H) (Hook.keeps $H)
    (fun s e => xl_of s (Bool.and_eq_true_iff.mp e).1) XL.keeps (by rfl) (by rfl) (by rfl) (fun s e => recFacts_of (Bool.and_eq_true_iff.mp e).2) (by rfl) (by decide +kernel) (by decide +kernel) ⟨rfl, rfl, rfl, rfl, rfl, by decide +kernel⟩ ?hw ?hc
  case hl => (refine left_quick "special-get-raises" ?_; intro w; kernel_rfl)
  ))
set_option hygiene true
open_top hd for PySem.Challenge.rw_tv0050_01
end Mine
end
namespace Mine
open PySem PySem.Calls PyProof.Rows PySem.W
theorem exI3 {α0 α1 α2 : Sort _} {p : α0 → α1 → α2 → Prop} (x0 : α0) (x1 : α1) (x2 : α2) (h : p x0 x1 x2) : ∃ x0 x1 x2, p x0 x1 x2 := ⟨x0, x1, x2, h⟩
theorem exI4 {α0 α1 α2 α3 : Sort _} {p : α0 → α1 → α2 → α3 → Prop} (x0 : α0) (x1 : α1) (x2 : α2) (x3 : α3) (h : p x0 x1 x2 x3) : ∃ x0 x1 x2 x3, p x0 x1 x2 x3 := ⟨x0, x1, x2, x3, h⟩
theorem exI5 {α0 α1 α2 α3 α4 : Sort _} {p : α0 → α1 → α2 → α3 → α4 → Prop} (x0 : α0) (x1 : α1) (x2 : α2) (x3 : α3) (x4 : α4) (h : p x0 x1 x2 x3 x4) : ∃ x0 x1 x2 x3 x4, p x0 x1 x2 x3 x4 := ⟨x0, x1, x2, x3, x4, h⟩
theorem exE5 {α0 α1 α2 α3 α4 : Sort _} {p : α0 → α1 → α2 → α3 → α4 → Prop} {P : Prop} (h : ∃ x0 x1 x2 x3 x4, p x0 x1 x2 x3 x4) (k : ∀ x0 x1 x2 x3 x4, p x0 x1 x2 x3 x4 → P) : P := by
  obtain ⟨x0, x1, x2, x3, x4, h⟩ := h
  exact k x0 x1 x2 x3 x4 h
theorem exI6 {α0 α1 α2 α3 α4 α5 : Sort _} {p : α0 → α1 → α2 → α3 → α4 → α5 → Prop} (x0 : α0) (x1 : α1) (x2 : α2) (x3 : α3) (x4 : α4) (x5 : α5) (h : p x0 x1 x2 x3 x4 x5) : ∃ x0 x1 x2 x3 x4 x5, p x0 x1 x2 x3 x4 x5 := ⟨x0, x1, x2, x3, x4, x5, h⟩
theorem exE6 {α0 α1 α2 α3 α4 α5 : Sort _} {p : α0 → α1 → α2 → α3 → α4 → α5 → Prop} {P : Prop} (h : ∃ x0 x1 x2 x3 x4 x5, p x0 x1 x2 x3 x4 x5) (k : ∀ x0 x1 x2 x3 x4 x5, p x0 x1 x2 x3 x4 x5 → P) : P := by
  obtain ⟨x0, x1, x2, x3, x4, x5, h⟩ := h
  exact k x0 x1 x2 x3 x4 x5 h
theorem exI8 {α0 α1 α2 α3 α4 α5 α6 α7 : Sort _} {p : α0 → α1 → α2 → α3 → α4 → α5 → α6 → α7 → Prop} (x0 : α0) (x1 : α1) (x2 : α2) (x3 : α3) (x4 : α4) (x5 : α5) (x6 : α6) (x7 : α7) (h : p x0 x1 x2 x3 x4 x5 x6 x7) : ∃ x0 x1 x2 x3 x4 x5 x6 x7, p x0 x1 x2 x3 x4 x5 x6 x7 := ⟨x0, x1, x2, x3, x4, x5, x6, x7, h⟩
theorem exE8 {α0 α1 α2 α3 α4 α5 α6 α7 : Sort _} {p : α0 → α1 → α2 → α3 → α4 → α5 → α6 → α7 → Prop} {P : Prop} (h : ∃ x0 x1 x2 x3 x4 x5 x6 x7, p x0 x1 x2 x3 x4 x5 x6 x7) (k : ∀ x0 x1 x2 x3 x4 x5 x6 x7, p x0 x1 x2 x3 x4 x5 x6 x7 → P) : P := by
  obtain ⟨x0, x1, x2, x3, x4, x5, x6, x7, h⟩ := h
  exact k x0 x1 x2 x3 x4 x5 x6 x7 h
theorem exI9 {α0 α1 α2 α3 α4 α5 α6 α7 α8 : Sort _} {p : α0 → α1 → α2 → α3 → α4 → α5 → α6 → α7 → α8 → Prop} (x0 : α0) (x1 : α1) (x2 : α2) (x3 : α3) (x4 : α4) (x5 : α5) (x6 : α6) (x7 : α7) (x8 : α8) (h : p x0 x1 x2 x3 x4 x5 x6 x7 x8) : ∃ x0 x1 x2 x3 x4 x5 x6 x7 x8, p x0 x1 x2 x3 x4 x5 x6 x7 x8 := ⟨x0, x1, x2, x3, x4, x5, x6, x7, x8, h⟩
theorem exE9 {α0 α1 α2 α3 α4 α5 α6 α7 α8 : Sort _} {p : α0 → α1 → α2 → α3 → α4 → α5 → α6 → α7 → α8 → Prop} {P : Prop} (h : ∃ x0 x1 x2 x3 x4 x5 x6 x7 x8, p x0 x1 x2 x3 x4 x5 x6 x7 x8) (k : ∀ x0 x1 x2 x3 x4 x5 x6 x7 x8, p x0 x1 x2 x3 x4 x5 x6 x7 x8 → P) : P := by
  obtain ⟨x0, x1, x2, x3, x4, x5, x6, x7, x8, h⟩ := h
  exact k x0 x1 x2 x3 x4 x5 x6 x7 x8 h
theorem anE5 {a0 a1 a2 a3 a4 P : Prop} (h : a0 ∧ a1 ∧ a2 ∧ a3 ∧ a4) (k : a0 → a1 → a2 → a3 → a4 → P) : P := by
  obtain ⟨h0, h1, h2, h3, h4⟩ := h
  exact k h0 h1 h2 h3 h4
theorem anE6 {a0 a1 a2 a3 a4 a5 P : Prop} (h : a0 ∧ a1 ∧ a2 ∧ a3 ∧ a4 ∧ a5) (k : a0 → a1 → a2 → a3 → a4 → a5 → P) : P := by
  obtain ⟨h0, h1, h2, h3, h4, h5⟩ := h
  exact k h0 h1 h2 h3 h4 h5
theorem anE9 {a0 a1 a2 a3 a4 a5 a6 a7 a8 P : Prop} (h : a0 ∧ a1 ∧ a2 ∧ a3 ∧ a4 ∧ a5 ∧ a6 ∧ a7 ∧ a8) (k : a0 → a1 → a2 → a3 → a4 → a5 → a6 → a7 → a8 → P) : P := by
  obtain ⟨h0, h1, h2, h3, h4, h5, h6, h7, h8⟩ := h
  exact k h0 h1 h2 h3 h4 h5 h6 h7 h8
theorem anE12 {a0 a1 a2 a3 a4 a5 a6 a7 a8 a9 a10 a11 P : Prop} (h : a0 ∧ a1 ∧ a2 ∧ a3 ∧ a4 ∧ a5 ∧ a6 ∧ a7 ∧ a8 ∧ a9 ∧ a10 ∧ a11) (k : a0 → a1 → a2 → a3 → a4 → a5 → a6 → a7 → a8 → a9 → a10 → a11 → P) : P := by
  obtain ⟨h0, h1, h2, h3, h4, h5, h6, h7, h8, h9, h10, h11⟩ := h
  exact k h0 h1 h2 h3 h4 h5 h6 h7 h8 h9 h10 h11
theorem anE13 {a0 a1 a2 a3 a4 a5 a6 a7 a8 a9 a10 a11 a12 P : Prop} (h : a0 ∧ a1 ∧ a2 ∧ a3 ∧ a4 ∧ a5 ∧ a6 ∧ a7 ∧ a8 ∧ a9 ∧ a10 ∧ a11 ∧ a12) (k : a0 → a1 → a2 → a3 → a4 → a5 → a6 → a7 → a8 → a9 → a10 → a11 → a12 → P) : P := by
  obtain ⟨h0, h1, h2, h3, h4, h5, h6, h7, h8, h9, h10, h11, h12⟩ := h
  exact k h0 h1 h2 h3 h4 h5 h6 h7 h8 h9 h10 h11 h12
/-- a fact kept from the arithmetic -/
structure Hid (p : Prop) : Prop where
  out : p
theorem genG {P : Prop} (h : ∀ G : Prop, (P → G) → G) : P := h P id
/-- what is known of one address -/
inductive Cel where
  | obj (o : Obj)
  | ns (m : Str → Option Value)
  | lst (vs : List Value)
  | cel (v : Option Value)
  | prd (P : Obj → Prop)
noncomputable def Cel.At (h : Heap) (a : Addr) : Cel → Prop
  | .obj o => h.get? a = some o
  | .ns m => h.Ns a m
  | .lst vs => ∃ n, h.get? a = some { cls := .type "list", data := .seq vs.toArray n }
  | .cel v => h.IsCell a v
  | .prd P => ∃ o, h.get? a = some o ∧ P o
theorem Cel.At.keep {h h' : Heap} {a : Addr} {c : Cel} (hk : ∀ o, h.get? a = some o → h'.get? a = some o) (x : c.At h a) : c.At h' a := by
  cases c with
  | obj o => exact hk _ x
  | ns m => obtain ⟨o, es, ep, e, r⟩ := x; exact ⟨o, es, ep, hk _ e, r⟩
  | lst vs => obtain ⟨n, e⟩ := x; exact ⟨n, hk _ e⟩
  | cel v => obtain ⟨o, e, r⟩ := x; exact ⟨o, hk _ e, r⟩
  | prd P => obtain ⟨o, e, r⟩ := x; exact ⟨o, hk _ e, r⟩
theorem Cel.At.live {h : Heap} {a : Addr} {c : Cel} (x : c.At h a) : ∃ o, h.get? a = some o := by
  cases c with
  | obj o => exact ⟨_, x⟩
  | ns m => obtain ⟨o, es, ep, e, r⟩ := x; exact ⟨_, e⟩
  | lst vs => obtain ⟨n, e⟩ := x; exact ⟨_, e⟩
  | cel v => obtain ⟨o, e, r⟩ := x; exact ⟨_, e⟩
  | prd P => obtain ⟨o, e, r⟩ := x; exact ⟨_, e⟩
/-- what the ledger holds: a frame lies behind the old heap, anything else is not the old heap's -/
noncomputable def Cel.Apart (hb : Heap) (a : Addr) : Cel → Prop
  | .ns _ => hb.objs.size ≤ a
  | _ => hb.get? a = none
theorem none_of_le {hb : Heap} {a : Addr} (h : hb.objs.size ≤ a) : hb.get? a = none := by
  cases q : hb.get? a with
  | none => rfl
  | some o => exact absurd (Heap.lt_size q) (Nat.not_lt.mpr h)
theorem Cel.Apart.none {hb : Heap} {a : Addr} {c : Cel} (x : c.Apart hb a) : hb.get? a = none := by
  cases c with
  | ns m => exact none_of_le x
  | _ => exact x
theorem Cel.Apart.of_le {hb : Heap} {a : Addr} {c : Cel} (x : hb.objs.size ≤ a) : c.Apart hb a := by
  cases c with
  | ns m => exact x
  | _ => exact none_of_le x
structure St (hb h : Heap) (L : Addr) (m : Str → Option Value) (own : List (Addr × Cel)) : Prop where
  keep : ∀ b o, hb.get? b = some o → h.get? b = some o
  fr : h.Ns L m
  above : hb.objs.size ≤ L
  has : ∀ p ∈ own, p.2.At h p.1 ∧ p.2.Apart hb p.1
  nd : (L :: own.map (·.1)).Nodup
section
variable {hb h h' : Heap} {L : Addr} {m m' : Str → Option Value} {own own' : List (Addr × Cel)}
theorem St.old (S : St hb h L m own) : hb.get? L = none := none_of_le S.above
theorem St.ltL (S : St hb h L m own) : L < h.objs.size := S.fr.lt
theorem St.sz (S : St hb h L m own) : hb.objs.size ≤ h.objs.size := Nat.le_of_lt (Nat.lt_of_le_of_lt S.above S.ltL)
theorem St.at (S : St hb h L m own) {i : Nat} {a : Addr} {c : Cel} (hi : own[i]? = some (a, c)) : c.At h a := (S.has _ (List.mem_of_getElem? hi)).1
theorem St.lt (S : St hb h L m own) {p : Addr × Cel} (hp : p ∈ own) : p.1 < h.objs.size := let ⟨_, e⟩ := (S.has p hp).1.live; Heap.lt_size e
theorem St.neL (S : St hb h L m own) {p : Addr × Cel} (hp : p ∈ own) : p.1 ≠ L := fun e => (List.nodup_cons.mp S.nd).1 (e ▸ List.mem_map_of_mem hp)
theorem St.ext (S : St hb h L m own) (hk : ∀ b o, h.get? b = some o → h'.get? b = some o) : St hb h' L m own :=
  ⟨fun b o e => hk b o (S.keep b o e), S.fr.keeps hk, S.above, fun p hp => ⟨(S.has p hp).1.keep (hk _), (S.has p hp).2⟩, S.nd⟩
theorem St.push0 (S : St hb h L m own) (o : Obj) : St hb (h.push o) L m own := S.ext fun _ _ e => Heap.get?_push_of_some _ e
theorem St.add (S : St hb h L m own) {a : Addr} {c : Cel} (hc : c.At h a) (hn : c.Apart hb a) (ha : a ∉ (L :: own.map (·.1))) : St hb h L m ((a, c) :: own) := by
  refine ⟨S.keep, S.fr, S.above, fun p hp => ?_, ?_⟩
  · rcases List.mem_cons.mp hp with rfl | hp
    · exact ⟨hc, hn⟩
    · exact S.has p hp
  · have nd := S.nd
    rw [List.nodup_cons] at nd
    rw [List.map_cons, List.nodup_cons, List.nodup_cons]
    rw [List.mem_cons, not_or] at ha
    exact ⟨fun q => (List.mem_cons.mp q).elim (fun e => ha.1 e.symm) nd.1, ha.2, nd.2⟩
theorem St.newAddr (S : St hb h L m own) {a : Addr} (hl : h.objs.size ≤ a) : a ∉ (L :: own.map (·.1)) := by
  intro q
  rcases List.mem_cons.mp q with e | q
  · exact absurd S.ltL (Nat.not_lt.mpr (e ▸ hl))
  · obtain ⟨p, hp, e⟩ := List.mem_map.mp q
    exact absurd (S.lt hp) (Nat.not_lt.mpr (e ▸ hl))
/-- the heap has grown, and at a new address something stands -/
theorem St.grow (S : St hb h L m own) (hk : ∀ b o, h.get? b = some o → h'.get? b = some o) {a : Addr} {c : Cel} (ha : h.objs.size ≤ a) (hc : c.At h' a) : St hb h' L m ((a, c) :: own) :=
  (S.ext hk).add hc (Cel.Apart.of_le (Nat.le_trans S.sz ha)) (S.newAddr ha)
theorem St.push (S : St hb h L m own) (o : Obj) {c : Cel} (hc : c.At (h.push o) h.objs.size) : St hb (h.push o) L m ((h.objs.size, c) :: own) :=
  S.grow (fun _ _ e => Heap.get?_push_of_some _ e) (Nat.le_refl _) hc
theorem St.setFr (S : St hb h L m own) (hn : h'.Ns L m') (hs : Heap.SameBut L h h') : St hb h' L m' own :=
  ⟨fun b o e => (hs.2 b (fun q => by subst q; rw [S.old] at e; cases e)).trans (S.keep b o e), hn, S.above,
   fun p hp => ⟨(S.has p hp).1.keep fun o e => (hs.2 _ (S.neL hp)).trans e, (S.has p hp).2⟩, S.nd⟩
theorem St.upd (S : St hb h L m own) {i : Nat} {a : Addr} {c c' : Cel} (hi : own[i]? = some (a, c)) (hs : Heap.SameBut a h h') (hc : c'.At h' a) (hn' : c'.Apart hb a) : St hb h' L m (own.set i (a, c')) := by
  have hm := List.mem_of_getElem? hi
  have hn := (S.has _ hm).2.none
  have heq : (own.set i (a, c')).map (·.1) = own.map (·.1) := by
    apply List.ext_getElem?
    intro j
    rw [List.getElem?_map, List.getElem?_map, List.getElem?_set]
    by_cases q : i = j
    · subst q
      rw [hi]
      have hl := (List.getElem?_eq_some_iff.mp hi).1
      simp [hl]
    · simp [q]
  refine ⟨fun b o e => (hs.2 b (fun q => by subst q; rw [hn] at e; cases e)).trans (S.keep b o e), ?_, S.above, fun p hp => ?_, by rw [heq]; exact S.nd⟩
  · exact S.fr.sameBut hs (fun e => S.neL hm e.symm)
  · obtain ⟨j, hj⟩ := List.mem_iff_getElem?.mp hp
    rw [List.getElem?_set] at hj
    by_cases q : i = j
    · rw [if_pos q] at hj
      split at hj
      · cases hj; exact ⟨hc, hn'⟩
      · cases hj
    · rw [if_neg q] at hj
      have hp' := List.mem_of_getElem? hj
      refine ⟨(S.has p hp').1.keep fun o e => (hs.2 _ fun e' => q ?_).trans e, (S.has p hp').2⟩
      have nd := (List.nodup_cons.mp S.nd).2
      have h1 : (own.map (·.1))[i]? = some a := by rw [List.getElem?_map, hi]; rfl
      have h2 : (own.map (·.1))[j]? = some a := by rw [List.getElem?_map, hj]; exact congrArg some e'
      exact (List.getElem?_inj (List.getElem?_eq_some_iff.mp h1).1 nd).mp (h1.trans h2.symm)
/-- the cells that are no frame: one put in the other's place -/
theorem St.put (S : St hb h L m own) {i : Nat} {a : Addr} {c c' : Cel} (hi : own[i]? = some (a, c)) (hs : Heap.SameBut a h h') (hc : c'.At h' a) (hx : ∀ x, c' ≠ .ns x := by intro x e; cases e) : St hb h' L m (own.set i (a, c')) := by
  refine S.upd hi hs hc ?_
  have hn := (S.has _ (List.mem_of_getElem? hi)).2.none
  cases c' with
  | ns x => exact absurd rfl (hx x)
  | _ => exact hn
/-- one cell put in another's place -/
inductive Sets (a : Addr) (c c' : Cel) : List (Addr × Cel) → List (Addr × Cel) → Prop
  | head {r} : Sets a c c' ((a, c) :: r) ((a, c') :: r)
  | tail {p r r'} : Sets a c c' r r' → Sets a c c' (p :: r) (p :: r')
theorem Sets.ix {a : Addr} {c c' : Cel} {l l' : List (Addr × Cel)} (U : Sets a c c' l l') : ∃ i, l[i]? = some (a, c) ∧ l' = l.set i (a, c') := by
  induction U with
  | head => exact ⟨0, rfl, rfl⟩
  | tail _ ih => obtain ⟨i, h1, h2⟩ := ih; exact ⟨i + 1, h1, by rw [h2]; rfl⟩
theorem Sets.old {a : Addr} {c c' : Cel} {l l' : List (Addr × Cel)} (U : Sets a c c' l l') : (a, c) ∈ l := by
  obtain ⟨i, h1, _⟩ := U.ix; exact List.mem_of_getElem? h1
theorem Sets.new {a : Addr} {c c' : Cel} {l l' : List (Addr × Cel)} (U : Sets a c c' l l') : (a, c') ∈ l' := by
  induction U with
  | head => exact .head _
  | tail _ ih => exact .tail _ ih
theorem St.mem (S : St hb h L m own) {a : Addr} {c : Cel} (hi : (a, c) ∈ own) : c.At h a := (S.has _ hi).1
theorem St.sets (S : St hb h L m own) {a : Addr} {c c' : Cel} (U : Sets a c c' own own') (hs : Heap.SameBut a h h') (hc : c'.At h' a) (hx : ∀ x, c' ≠ .ns x := by intro x e; cases e) : St hb h' L m own' := by
  obtain ⟨i, h1, rfl⟩ := U.ix
  exact S.put h1 hs hc hx
theorem St.setsFr (S : St hb h L m own) {a : Addr} {x x' : Str → Option Value} (U : Sets a (.ns x) (.ns x') own own') (hs : Heap.SameBut a h h') (hc : h'.Ns a x') : St hb h' L m own' := by
  obtain ⟨i, h1, rfl⟩ := U.ix
  exact S.upd h1 hs hc (S.has _ (List.mem_of_getElem? h1)).2
theorem St.sub (S : St hb h L m own) (hs : own'.Sublist own) : St hb h L m own' :=
  ⟨S.keep, S.fr, S.above, fun p hp => S.has p (hs.subset hp), List.Nodup.sublist (List.Sublist.cons_cons L (hs.map _)) S.nd⟩
theorem St.tail {p} (S : St hb h L m (p :: own)) : St hb h L m own := S.sub (List.sublist_cons_self ..)
/-- the callee's frame in, the caller's into the ledger -/
theorem St.enter (S : St hb h L m own) (hk : ∀ b o, h.get? b = some o → h'.get? b = some o) {L' : Addr} (hL : h.objs.size ≤ L') (hn : h'.Ns L' m') : St hb h' L' m' ((L, .ns m) :: own) := by
  have S' := S.ext hk
  refine ⟨S'.keep, hn, Nat.le_trans S.sz hL, fun p hp => ?_, ?_⟩
  · rcases List.mem_cons.mp hp with rfl | hp
    · exact ⟨S'.fr, S.above⟩
    · exact S'.has p hp
  · rw [List.map_cons, List.nodup_cons]
    refine ⟨fun q => ?_, S.nd⟩
    rcases List.mem_cons.mp q with e | q
    · exact absurd S.ltL (Nat.not_lt.mpr ((show L' = L from e) ▸ hL))
    · obtain ⟨p, hp, e⟩ := List.mem_map.mp q
      exact absurd (S.lt hp) (Nat.not_lt.mpr ((show p.1 = L' from e) ▸ hL))
theorem St.leave {L' : Addr} (S : St hb h L' m' ((L, .ns m) :: own)) : St hb h L m own :=
  ⟨S.keep, (S.has _ (.head _)).1, (S.has _ (.head _)).2, fun p hp => S.has p (.tail _ hp), (List.nodup_cons.mp S.nd).2⟩
theorem St.Fr (S : St hb h L m own) : Fr hb L h m := ⟨S.fr, S.keep, S.above⟩
/-- the ledger as the library's rules ask for it -/
theorem St.news (S : St hb h L m own) : ∃ news, News hb L h news ∧ ∀ h' ex, PyProof.Rows.Fr hb L h' m → News hb L h' (ex ++ news) → St hb h' L m own := by
  have : ∀ l : List (Addr × Cel), (∀ p ∈ l, p ∈ own) → ∃ news, News hb L h news ∧ ∀ h' ex, News hb L h' (ex ++ news) → ∀ p ∈ l, p.2.At h' p.1 := by
    intro l
    induction l with
    | nil => exact fun _ => ⟨[], News.nil, fun h' ex N' p hp => absurd hp List.not_mem_nil⟩
    | cons q l ih =>
      intro hl
      obtain ⟨news, N, k⟩ := ih fun p hp => hl p (.tail _ hp)
      have hq := S.has q (hl q (.head _))
      obtain ⟨o, e⟩ := hq.1.live
      refine ⟨(q.1, o) :: news, fun p hp => ?_, fun h' ex N' p hp => ?_⟩
      · rcases List.mem_cons.mp hp with rfl | hp
        · exact ⟨e, S.neL (hl q (.head _)), hq.2.none⟩
        · exact N p hp
      · rcases List.mem_cons.mp hp with rfl | hp
        · exact hq.1.keep fun o' e' => by
            rw [e] at e'; cases e'
            exact (N' _ (List.mem_append_right _ (.head _))).1
        · exact k h' (ex ++ [(q.1, o)]) (by rw [List.append_assoc]; exact N') p hp
  obtain ⟨news, N, k⟩ := this own fun _ hp => hp
  exact ⟨news, N, fun h' ex F' N' => ⟨F'.keep, F'.ns, F'.above, fun p hp => ⟨k h' ex N' p hp, (S.has p hp).2⟩, S.nd⟩⟩
end
noncomputable abbrev KK := Mine.hd.heap_1
noncomputable abbrev PG : Program := PySem.Challenge.rw_tv0050_01.row.prog
noncomputable abbrev NoE : Value → Shared → Prop := fun _ _ => False
/-- the text's own names -/
noncomputable def gtab : List (Str × Value) := [
  ("_law_heaps", .ref 194), ("_law_lexer", .ref 201), ("_law_written", .ref 206), ("_law_half", .ref 213), ("_law_nanny", .ref 220),
  ("_law_quick_hand", .ref 227), ("_law_table", .ref 232), ("bisect_right", .ref 147), ("insort_right", .ref 138), ("int_divmod", .ref 129),
  ("_divmod_pos", .ref 122), ("_digits2int", .ref 115), ("_int2digits", .ref 108), ("_div2n1n", .ref 94), ("_DIV_LIMIT", .int 4000 0), ("_netrclex", .ref 185), ("Whitespace", .ref 83)]
noncomputable def btab : List (Str × Value) := [
  ("len", .builtin "len"), ("range", .type "range"), ("sum", .builtin "sum"), ("sorted", .builtin "sorted"), ("abs", .builtin "abs"), ("reversed", .type "reversed"),
  ("divmod", .builtin "divmod"), ("iter", .builtin "iter"), ("tuple", .type "tuple"), ("list", .type "list"), ("min", .builtin "min")]
structure Bs (w : World) (hb : Heap) : Prop where
  X : (KK w.params).In hb
  ns : ∃ mg mb, hb.Ns mainGlobals mg ∧ hb.Ns builtinsNs mb ∧ (∀ x v, gtab.lookup x = some v → mg x = some v ∨ (x = "_DIV_LIMIT" ∧ ∃ t, mg x = some (.int 4000 t))) ∧ ∀ x v, btab.lookup x = some v → mg x = none ∧ mb x = some v
  nolimit : hb.NoLimit
  bm : ∃ mg bm ob, hb.Ns mainGlobals mg ∧ mg "__builtins__" = some (.ref bm) ∧ bm ≠ builtinsNs ∧ bm ≠ mainGlobals ∧ hb.get? bm = some ob ∧ ob.cls = .type "module" ∧ ob.dict = some builtinsNs ∧ ob.data = .plain
  code : CodeHd hb 226 222 ∧ CodeHd hb 200 196 ∧ CodeHd hb 114 110 ∧ CodeHd hb 107 103
section
variable {w : World} {hb : Heap} {L : Addr} {m : Str → Option Value} {own : List (Addr × Cel)} {A : Around} {E : Value → Shared → Prop} {s : Shared} {hp : Heap} {g : Array GenState} {d : Drawn} {tk : Nat} {os : OsState} {env : Env}
theorem nm {x : Str} {pos : Pos} {v : Value} {Q : Value → Shared → Prop} {M : Model} (S : St hb s.heap env.locals m own) (hv : m x = some v) (h : Q v s)
    (hk : env.scope.kind = .function := by rfl) (hl : env.kindOf x = some .local := by rfl) (hd : (x == ("__debug__" : Str)) = false := by decide) :
    wpAny M A (eval (.Name x pos) env) Q E s := wpAny_Name (wpAny_loadName_local hk hl S.fr hv h) hd
theorem nmG {x : Str} {pos : Pos} {v : Value} {Q : Value → Shared → Prop} {M : Model} (B : Bs w hb) (S : St hb s.heap L m own) (hv : gtab.lookup x = some v) (h : Q v s) (hx : (x == ("_DIV_LIMIT" : Str)) = false := by decide)
    (hk : env.scope.kind = .function := by rfl) (hg : env.globals = mainGlobals := by rfl) (hl : env.kindOf x = some .globalImplicit := by rfl) (hd : (x == ("__debug__" : Str)) = false := by decide) :
    wpAny M A (eval (.Name x pos) env) Q E s := by
  obtain ⟨mg, mb, g, b, k, _⟩ := B.ns
  refine Name_function_global hk hl (loadGlobal_global (hg ▸ g.keeps S.keep) ?_ h) hd
  rcases k x v hv with e | ⟨e, _⟩
  · exact e
  · subst e; exact absurd hx (by decide)
theorem nmLim {pos : Pos} {Q : Value → Shared → Prop} {M : Model} (B : Bs w hb) (S : St hb s.heap L m own) (h : ∀ t, Q (.int 4000 t) s)
    (hk : env.scope.kind = .function := by rfl) (hg : env.globals = mainGlobals := by rfl) (hl : env.kindOf "_DIV_LIMIT" = some .globalImplicit := by rfl) :
    wpAny M A (eval (.Name "_DIV_LIMIT" pos) env) Q E s := by
  obtain ⟨mg, mb, g, b, k, _⟩ := B.ns
  rcases k "_DIV_LIMIT" (.int 4000 0) (by decide +kernel) with e | ⟨_, t, e⟩
  · exact Name_function_global hk hl (loadGlobal_global (hg ▸ g.keeps S.keep) e (h _)) (by decide)
  · exact Name_function_global hk hl (loadGlobal_global (hg ▸ g.keeps S.keep) e (h t)) (by decide)
theorem nmB {x : Str} {pos : Pos} {v : Value} {Q : Value → Shared → Prop} {M : Model} (B : Bs w hb) (S : St hb s.heap L m own) (hv : btab.lookup x = some v) (h : Q v s)
    (hk : env.scope.kind = .function := by rfl) (hg : env.globals = mainGlobals := by rfl) (hbn : env.builtins = builtinsNs := by rfl) (hl : env.kindOf x = some .globalImplicit := by rfl) (hd : (x == ("__debug__" : Str)) = false := by decide) :
    wpAny M A (eval (.Name x pos) env) Q E s := by
  obtain ⟨mg, mb, g, b, _, k⟩ := B.ns
  exact Name_function_global hk hl (loadGlobal_builtin (hg ▸ g.keeps S.keep) (k x v hv).1 (hbn ▸ b.keeps S.keep) (k x v hv).2 h) hd
/-- a captured name: the cell is among the own -/
theorem nmF {x : Str} {pos : Pos} {v : Value} {c : Addr} {Q : Value → Shared → Prop} {M : Model} (S : St hb s.heap L m own) (hc : env.cells.lookup x = some c) (hi : (c, .cel (some v)) ∈ own) (h : Q v s)
    (hk : env.scope.kind = .function := by rfl) (hl : env.kindOf x = some .free := by rfl) (hd : (x == ("__debug__" : Str)) = false := by decide) (hn : (x == ("__classdict__" : Str)) = false := by decide) :
    wpAny M A (eval (.Name x pos) env) Q E s := wpAny_Name (wpAny_loadName_free hk hl hc (S.mem hi) h hn) hd
theorem nmC {x : Str} {pos : Pos} {v : Value} {c : Addr} {Q : Value → Shared → Prop} {M : Model} (S : St hb s.heap L m own) (hc : env.cells.lookup x = some c) (hi : (c, .cel (some v)) ∈ own) (h : Q v s)
    (hk : env.scope.kind = .function := by rfl) (hl : env.kindOf x = some .cell := by rfl) (hd : (x == ("__debug__" : Str)) = false := by decide) :
    wpAny M A (eval (.Name x pos) env) Q E s := wpAny_Name (wpAny_loadName_cell hk hl hc (S.mem hi) h) hd
theorem stN {x : Str} {v : Value} {Q : Unit → Shared → Prop} {M : Model} (S : St hb hp env.locals m own)
    (h : ∀ h' tk', St hb h' env.locals (fun y => if y = x then some v else m y) own → Q () ⟨h', g, d, tk', os⟩)
    (hk : env.scope.kind = .function := by rfl) (hl : env.kindOf x = some .local := by rfl) : wpAny M A (storeName env x v) Q E ⟨hp, g, d, tk, os⟩ :=
  wpAny_storeName_local hl S.fr (fun h' hn hs => h h' _ (S.setFr hn hs)) (by rw [hk]; rfl)
theorem stC {x : Str} {v : Value} {c : Addr} {v₀ : Option Value} {own' : List (Addr × Cel)} {Q : Unit → Shared → Prop} {M : Model} (S : St hb hp L m own) (hc : env.cells.lookup x = some c) (U : Sets c (.cel v₀) (.cel (some v)) own own')
    (h : ∀ h', St hb h' L m own' → Q () ⟨h', g, d, tk, os⟩)
    (hk : env.scope.kind = .function := by rfl) (hl : env.kindOf x = some .cell := by rfl) : wpAny M A (storeName env x v) Q E ⟨hp, g, d, tk, os⟩ :=
  wpAny_storeName_cell hk hl hc (S.mem U.old) fun h' hn hs => h h' (S.sets U hs hn)
noncomputable abbrev retv (fl : Flow) : Value := match fl with | .ret v => v | _ => .none
theorem callF {R : Result → Shared → Prop} {name qual : Str} {params : Arguments} {body : List Stmt} {scope : Scope} {cl : List (Str × Addr)} {dV kV doc pm cdv ct : Value} {an : Option Addr} {fo : Obj} {f : Addr} {args : Args} {binds : List (Str × Value)}
    (S : St hb hp L m own) (hlim : hb.NoLimit) (ho : hp.get? f = some fo) (hd : fo.data = .func (fnX name qual params body scope cl dV kV doc pm an cdv ct)) (hcd : hp.CodeRec cdv qual)
    (hroom : A.depth < recursionLimit) (hbind : BindsTo ⟨hp, g, d, tk, os⟩ (fnX name qual params body scope cl dV kV doc pm an cdv ct) args binds) (hloc : ∀ y ∈ binds, scope.names.lookup y.1 = some .local)
    (h : ∀ h₁ L' tk', St hb h₁ L' (fun y => binds.reverse.lookup y) ((L, .ns m) :: own) →
      wpAny (model PG w) (A.deeper (envX qual scope L' f cdv cl)) (execs body (envX qual scope L' f cdv cl)) (fun fl s' => R (.ok (.ret (retv fl))) s') NoE ⟨h₁, g, d, tk', os⟩)
    (hcell : ∀ x ∈ scope.names, x.2 ≠ .cell) (hco : scope.isCoroutine = false := by rfl) (hgen : scope.isGenerator = false := by rfl) (hk : scope.kind = .function := by rfl) :
    codeAny (model PG w) A (.call (.ref f) args) R ⟨hp, g, d, tk, os⟩ :=
  codeAny_call_def (fd := fnX name qual params body scope cl dV kV doc pm an cdv ct) hroom ho hd (hlim.keeps S.keep) hcd rfl hbind hcell hloc
    (fun h₁ hns hk₁ => wpAny_mono (h h₁ hp.objs.size _ (S.enter hk₁ (Nat.le_refl _) hns)) (fun _ _ x => x) (fun _ _ x => x.elim)) hco hgen hk
theorem callK {R : Result → Shared → Prop} {name qual : Str} {params : Arguments} {body : List Stmt} {scope : Scope} {dV kV doc pm cdv ct oc : Value} {an od : Option Addr} {osl : Array (Option Value)} {f : Addr} {args : Args} {binds : List (Str × Value)}
    (B : Bs w hb) (S : St hb hp L m own) (hl : (KK w.params).lookup f = some ⟨oc, od, .func (fnX name qual params body scope [] dV kV doc pm an cdv ct), osl⟩) (hcd : codeIn (KK w.params) cdv qual = true)
    (hroom : A.depth < recursionLimit) (hbind : BindsTo ⟨hp, g, d, tk, os⟩ (fnX name qual params body scope [] dV kV doc pm an cdv ct) args binds) (hloc : (binds.all fun x => decide (scope.names.lookup x.1 = some .local)) = true)
    (h : ∀ h₁ L' tk', St hb h₁ L' (fun y => binds.reverse.lookup y) ((L, .ns m) :: own) →
      wpAny (model PG w) (A.deeper (envX qual scope L' f cdv [])) (execs body (envX qual scope L' f cdv [])) (fun fl s' => R (.ok (.ret (retv fl))) s') NoE ⟨h₁, g, d, tk', os⟩)
    (hcell : (scope.names.all fun x => decide (x.2 ≠ .cell)) = true := by rfl) (hco : scope.isCoroutine = false := by rfl) (hgen : scope.isGenerator = false := by rfl) (hk : scope.kind = .function := by rfl) :
    codeAny (model PG w) A (.call (.ref f) args) R ⟨hp, g, d, tk, os⟩ :=
  callF S B.nolimit (S.keep _ _ (B.X _ _ hl)) rfl (codeRec_of (fun a o e => S.keep _ _ (B.X a o e)) hcd) hroom hbind (fun x hx => of_decide_eq_true (List.all_eq_true.mp hloc x hx)) h
    (fun x hx => of_decide_eq_true (List.all_eq_true.mp hcell x hx)) hco hgen hk
end
section
variable {w : World} {hb : Heap} {L : Addr} {m : Str → Option Value} {own own' : List (Addr × Cel)} {A : Around} {E : Value → Shared → Prop} {s : Shared} {hp : Heap} {g : Array GenState} {d : Drawn} {tk : Nat} {os : OsState} {env : Env}
/-- one turn of a while -/
theorem while1 {R : Result → Shared → Prop} {test : Expr} {body orelse : List Stmt}
    (h : wpAny (model PG w) A (isTrue test env (eval test env)) (fun b s₂ =>
        if b then wpAny (model PG w) A (execs body env) (fun f s₃ => match f with
            | .next | .cont => codeAny (model PG w) A (.whileLoop test body orelse env) R s₃
            | .brk => R (.ok .next) s₃
            | .ret v => R (.ok (.ret v)) s₃) NoE s₂
        else wpAny (model PG w) A (execs orelse env) (fun f s₃ => R (.ok f) s₃) NoE s₂) NoE s) :
    codeAny (model PG w) A (.whileLoop test body orelse env) R s := by
  refine codeAny_of_tree ?_
  show wpAny _ A ((whileTurn test body orelse env).onRaise (fun x => do noteFrame x env; theTreesLotGoes x)) _ _ s
  refine wpAny_onRaise ?_
  simp only [whileTurn]
  refine wpAny_bind (wpAny_mono h (fun b s₂ h₂ => ?_) fun _ _ h' => h'.elim)
  cases b with
  | false =>
    simp only [Bool.false_eq_true, if_false] at h₂ ⊢
    exact wpAny_bind (wpAny_mono h₂ (fun f s₃ h₃ => wpAny_pure h₃) fun _ _ h' => h'.elim)
  | true =>
    simp only [if_true] at h₂ ⊢
    refine wpAny_bind (wpAny_mono h₂ (fun f s₃ h₃ => ?_) fun _ _ h' => h'.elim)
    cases f with
    | next => exact wpAny_pure ⟨rfl, h₃⟩
    | cont => exact wpAny_pure ⟨rfl, h₃⟩
    | brk => exact wpAny_pure h₃
    | ret v => exact wpAny_pure h₃
/-- one turn of a for -/
theorem for1 {R : Result → Shared → Prop} {target : Expr} {it : Value} {body orelse : List Stmt}
    (h : wpAny (model PG w) A (pyNext it) (fun r s₁ => match r with
      | none => wpAny (model PG w) A (execs orelse env) (fun f s₃ => R (.ok f) s₃) NoE s₁
      | some v => wpAny (model PG w) A (assign target env v) (fun _ s₂ => wpAny (model PG w) A (execs body env) (fun f s₃ => match f with
          | .next | .cont => codeAny (model PG w) A (.forLoop target it body orelse env) R s₃
          | .brk => R (.ok .next) s₃
          | .ret v => R (.ok (.ret v)) s₃) NoE s₂) NoE s₁) NoE s)
    (ht : ∀ v, letOwnedTupleGo target it v = pure () := by intro _; rfl) : codeAny (model PG w) A (.forLoop target it body orelse env) R s := by
  refine codeAny_of_tree ?_
  show wpAny _ _ ((forTurn target it body orelse env).onRaise (fun x => do noteFrame x env; theTreesLotGoes x)) _ _ s
  refine wpAny_onRaise ?_
  simp only [forTurn]
  refine wpAny_bind (wpAny_standAt (wpAny_bind (wpAny_onRaise (wpAny_mono h (fun r s₁ h₁ => ?_) fun _ _ h' => h'.elim))))
  cases r with
  | none => exact wpAny_pure ⟨rfl, codeAny_block (wpAny_mono h₁ (fun _ _ h => h) fun _ _ h' => h'.elim)⟩
  | some v =>
    refine wpAny_bind (wpAny_of_eq (ht v) ?_)
    refine wpAny_bind (wpAny_mono h₁ (fun _ s₂ h₂ => wpAny_bind (wpAny_mono h₂ (fun f s₃ h₃ => ?_) fun _ _ h' => h'.elim)) fun _ _ h' => h'.elim)
    cases f with
    | next => exact wpAny_pure ⟨rfl, h₃⟩
    | cont => exact wpAny_pure ⟨rfl, h₃⟩
    | brk => exact wpAny_pure h₃
    | ret v => exact wpAny_pure h₃
theorem While_ {M : Model} {test : Expr} {body orelse : List Stmt} {pos : Pos} {Q : Flow → Shared → Prop}
    (h : codeAny M A (.whileLoop test body orelse env) (fun r s' => match r with | .ok f => Q f s' | .error _ => False) s) : wpAny M A (exec (.While test body orelse pos) env) Q E s :=
  wpAny_While (codeAny_mono h fun r s' x => by cases r with | ok f => exact x | error e => exact x.elim)
theorem For_ {M : Model} {target iter : Expr} {body orelse : List Stmt} {pos : Pos} {Q : Flow → Shared → Prop}
    (h : wpAny M A (eval iter env) (fun x s₁ => wpAny M A (pyIter x) (fun it s₂ => codeAny M A (.forLoop target it body orelse env) (fun r s' => match r with | .ok f => Q f s' | .error _ => False) s₂) E s₁) E s)
    (hs : ∀ x, foldedSetIterable iter env x = pure x := by intro _; rfl) : wpAny M A (exec (.For target iter body orelse pos) env) Q E s :=
  wpAny_For (wpAny_mono h (fun x s₁ h₁ => wpAny_mono h₁ (fun it s₂ h₂ => codeAny_mono h₂ fun r s' x => by cases r with | ok f => exact x | error e => exact x.elim) fun _ _ x => x) fun _ _ x => x) hs
theorem lst_isList {h : Heap} {a : Addr} {vs : List Value} (x : (Cel.lst vs).At h a) : h.IsList a vs.toArray := let ⟨n, e⟩ := x; ⟨_, e, rfl, n, rfl⟩
noncomputable abbrev Cel.lit (l : Addr) (i : Nat) : Cel := .prd fun o => o.cls = .type "list_iterator" ∧ o.data = .fields #[.ref l, .int (i : Int) 0]
theorem iterL {M : Model} {l : Addr} {vs : List Value} {Q : Value → Shared → Prop} {prog : Program} (hM : M = model prog w) (S : St hb hp L m own) (hl : (l, .lst vs) ∈ own)
    (h : ∀ h' I, St hb h' L m ((I, .lit l 0) :: own) → Q (.ref I) ⟨h', g, d, tk, os⟩) : wpAny M A (pyIter (.ref l)) Q E ⟨hp, g, d, tk, os⟩ := by
  subst hM
  exact wpAny_pyIter_list (lst_isList (S.mem hl)) (h _ _ (S.push _ ⟨_, Heap.get?_push_size _ rfl, rfl, rfl⟩))
theorem nextL {prog : Program} {l I : Addr} {i : Nat} {vs : List Value} {v : Value} {Q : Option Value → Shared → Prop} (S : St hb hp L m own) (U : Sets I (.lit l i) (.lit l (i + 1)) own own') (hl : (l, .lst vs) ∈ own) (hv : vs[i]? = some v)
    (h : ∀ h', St hb h' L m own' → Q (some v) ⟨h', g, d, tk, os⟩) : wpAny (model prog w) A (pyNext (.ref I)) Q E ⟨hp, g, d, tk, os⟩ :=
  wpAny_pyNext_list_item (S.mem U.old) (lst_isList (S.mem hl)) (by simpa using hv) fun h' hi hs => h h' (S.sets U hs hi)
/-- a cell struck -/
inductive Gone (a : Addr) (c : Cel) : List (Addr × Cel) → List (Addr × Cel) → Prop
  | head {r} : Gone a c ((a, c) :: r) r
  | tail {p r r'} : Gone a c r r' → Gone a c (p :: r) (p :: r')
theorem Gone.sub {a : Addr} {c : Cel} {l l' : List (Addr × Cel)} (U : Gone a c l l') : l'.Sublist l := by
  induction U with
  | head => exact List.sublist_cons_self ..
  | tail _ ih => exact ih.cons_cons _
theorem Gone.old {a : Addr} {c : Cel} {l l' : List (Addr × Cel)} (U : Gone a c l l') : (a, c) ∈ l := by
  induction U with
  | head => exact .head _
  | tail _ ih => exact .tail _ ih
theorem Gone.ne {a : Addr} {c : Cel} {l l' : List (Addr × Cel)} (U : Gone a c l l') : (l.map (·.1)).Nodup → ∀ p ∈ l', p.1 ≠ a := by
  induction U with
  | head => exact fun nd p hp e => (List.nodup_cons.mp nd).1 (List.mem_map.mpr ⟨p, hp, e⟩)
  | tail U ih =>
    intro nd p hp
    rcases List.mem_cons.mp hp with rfl | hp
    · intro e
      have h1 := (List.nodup_cons.mp nd).1
      exact h1 (List.mem_map.mpr ⟨_, U.old, e.symm⟩)
    · exact ih (List.nodup_cons.mp nd).2 p hp
/-- all stands but the one cell, which is struck -/
theorem St.gone {h h' : Heap} (S : St hb h L m own) {a : Addr} {c : Cel} (U : Gone a c own own') (hx : Heap.ExtBut a h h') : St hb h' L m own' := by
  have S' := S.sub U.sub
  have ha := (S.has _ U.old).2.none
  refine ⟨fun b o e => hx b o (fun q => by subst q; rw [ha] at e; cases e) (S.keep b o e), S.fr.extBut hx (fun q => S.neL U.old q.symm), S.above, fun p hp => ?_, S'.nd⟩
  exact ⟨(S'.has p hp).1.keep fun o e => hx _ o (U.ne (List.nodup_cons.mp S.nd).2 p hp) e, (S'.has p hp).2⟩
theorem endL {prog : Program} {l I : Addr} {i : Nat} {vs : List Value} {Q : Option Value → Shared → Prop} (hh : A.handled = none) (S : St hb hp L m own) (U : Gone I (.lit l i) own own') (hl : (l, .lst vs) ∈ own) (hv : vs[i]? = none)
    (h : ∀ h', St hb h' L m own' → Q none ⟨h', g, d, tk, os⟩) : wpAny (model prog w) A (pyNext (.ref I)) Q E ⟨hp, g, d, tk, os⟩ :=
  wpAny_pyNext_list_end hh (S.mem U.old) (lst_isList (S.mem hl)) (by simpa using hv) fun h' hx => h h' (S.gone U hx)
end
/-- a value that may be called plainly -/
noncomputable def FnOr (f : Value) (h : Heap) : Prop := (∃ id, f = .builtin id) ∨ (∃ T, f = .type T) ∨ (∃ a o fd, f = .ref a ∧ h.get? a = some o ∧ o.data = .func fd) ∨
  (∃ a g self o fd, f = .ref a ∧ h.get? a = some (methodObj (.ref g) self) ∧ h.get? g = some o ∧ o.data = .func fd) ∨
  ∃ K : Frag, keepIn K f = true ∧ K.In h
theorem FnOr.keeps {M : Model} {f : Value} : ∀ h, FnOr f h → ∃ k, (k = Keeper.frame ∨ k = Keeper.machine ∨ k = Keeper.boundFrame) ∧ Looks M h (keeperOf f) k := by
  rintro h (⟨id, rfl⟩ | ⟨T, rfl⟩ | ⟨a, o, fd, rfl, ho, hd⟩ | ⟨a, g, self, o, fd, rfl, ha, hg, hd⟩ | ⟨K, hk, X⟩)
  · exact ⟨.machine, .inr (.inl rfl), Looks.of_pure rfl⟩
  · exact ⟨.machine, .inr (.inl rfl), Looks.of_pure rfl⟩
  · refine ⟨.frame, .inl rfl, ?_⟩
    unfold keeperOf
    refine (Looks.ld (part := none) ho).andThen ?_
    rw [hd]; exact .now
  · refine ⟨.boundFrame, .inr (.inr rfl), (Looks.ld (part := none) ha).andThen ?_⟩
    refine (Looks.ld (part := none) hg).andThen ?_
    rw [hd]; exact .now
  · exact keeps_K hk h X
section
variable {w : World} {hb : Heap} {L : Addr} {m : Str → Option Value} {own own' : List (Addr × Cel)} {A : Around} {E : Value → Shared → Prop} {s : Shared} {env : Env} {M : Model} {pos : Pos} {f : Value} {first : List Value} {Q : Value → Shared → Prop}
theorem FnOr.b {id : String} {h : Heap} : FnOr (.builtin id) h := .inl ⟨_, rfl⟩
theorem FnOr.t {id : String} {h : Heap} : FnOr (.type id) h := .inr (.inl ⟨_, rfl⟩)
theorem FnOr.k {h : Heap} (B : Bs w hb) (S : St hb h L m own) {a : Addr} {oc : Value} {od : Option Addr} {fd : FuncData} {osl : Array (Option Value)} (hl : (KK w.params).lookup a = some ⟨oc, od, .func fd, osl⟩) : FnOr (.ref a) h :=
  .inr (.inr (.inl ⟨_, _, _, rfl, S.keep _ _ (B.X _ _ hl), rfl⟩))
theorem FnOr.c {h : Heap} {f : Value} (B : Bs w hb) (S : St hb h L m own) (hk : keepIn (KK w.params) f = true) : FnOr f h := .inr (.inr (.inr (.inr ⟨_, hk, B.X.keeps S.keep⟩)))
theorem FnOr.o {h : Heap} (S : St hb h L m own) {a : Addr} {o : Obj} {fd : FuncData} (hm : (a, .obj o) ∈ own) (hd : o.data = .func fd) : FnOr (.ref a) h :=
  .inr (.inr (.inl ⟨_, _, _, rfl, S.mem hm, hd⟩))
theorem cw1 {e : Expr} {rest : List Expr} (h : wpAny M A (spliced (backTo pos (starEach (e :: rest) env))) (fun vs s₁ => FnOr f s₁.heap ∧ wpAny M A (call f (first ++ vs)) Q E s₁) E s)
    (he : starEach (e :: rest) env = (false, eval e env) :: starEach rest env := by rfl) (hplain : (backTo pos (starEach rest env)).any (·.1) = false := by rfl) :
    wpAny M A (callWith pos f first (backTo pos (starEach (e :: rest) env)) []) Q E s := by
  rw [he] at h ⊢
  exact callWith_of (by show ((false || (backTo pos (starEach rest env)).any (·.1)) || false) = false; rw [hplain]; rfl) FnOr.keeps (evalArgs_plain h)
theorem cwn1 {e : Expr} {rest : List Expr} (h : wpAny M A (spliced (backTo pos (starEach (e :: rest) env))) (fun vs s₁ => FnOr f s₁.heap ∧ wpAny M A (call f vs) Q E s₁) E s)
    (he : starEach (e :: rest) env = (false, eval e env) :: starEach rest env := by rfl) (hplain : (backTo pos (starEach rest env)).any (·.1) = false := by rfl) :
    wpAny M A (callWith pos f [] (backTo pos (starEach (e :: rest) env)) []) Q E s := cw1 h he hplain
theorem cws1 {x : Value} {e : Expr} {rest : List Expr} (h : wpAny M A (spliced (backTo pos (starEach (e :: rest) env))) (fun vs s₁ => FnOr f s₁.heap ∧ wpAny M A (call f (x :: vs)) Q E s₁) E s)
    (he : starEach (e :: rest) env = (false, eval e env) :: starEach rest env := by rfl) (hplain : (backTo pos (starEach rest env)).any (·.1) = false := by rfl) :
    wpAny M A (callWith pos f [x] (backTo pos (starEach (e :: rest) env)) []) Q E s := cw1 h he hplain
theorem cw0 (hf : FnOr f s.heap) (h : wpAny M A (call f (first ++ [])) Q E s) : wpAny M A (callWith pos f first (backTo pos (starEach [] env)) []) Q E s :=
  callWith_of rfl FnOr.keeps (evalArgs_nil3 ⟨hf, h⟩)
theorem cwn0 (hf : FnOr f s.heap) (h : wpAny M A (call f []) Q E s) : wpAny M A (callWith pos f [] (backTo pos (starEach [] env)) []) Q E s := cw0 hf h
theorem cws0 {x : Value} (hf : FnOr f s.heap) (h : wpAny M A (call f [x]) Q E s) : wpAny M A (callWith pos f [x] (backTo pos (starEach [] env)) []) Q E s := cw0 hf h
theorem cwk {e : Expr} {rest : List Expr} {kws : List Keyword}
    (h : wpAny M A (spliced (backTo pos (starEach (e :: rest) env))) (fun vs s₁ => wpAny M A (evalAll ((backToKw pos (keywordEach kws env)).map (·.2)))
      (fun ks s₂ => FnOr f s₂.heap ∧ wpAny M A (call f (first ++ vs) (((backToKw pos (keywordEach kws env)).filterMap (·.1)).zip ks)) Q E s₂) E s₁) E s)
    (hall : (backToKw pos (keywordEach kws env)).all (·.1.isSome) = true := by rfl)
    (hplain : ((backTo pos (starEach (e :: rest) env)).any (·.1) || (backToKw pos (keywordEach kws env)).any (·.1.isNone)) = false := by rfl) (he : starEach (e :: rest) env = (false, eval e env) :: starEach rest env := by rfl) :
    wpAny M A (callWith pos f first (backTo pos (starEach (e :: rest) env)) (backToKw pos (keywordEach kws env))) Q E s :=
  callWith_of hplain FnOr.keeps (evalArgs_kw2 hall h he)
end
theorem upd_lst {h : Heap} {l : Addr} {its : Array Value} {n : Nat} {f : Array Value → Array Value} {ws : List Value} (ho : h.get? l = some { cls := .type "list", data := .seq its n }) (e : f its = ws.toArray) : (Cel.lst ws).At (h.update l (Obj.mapSeq f)) l := by
  refine ⟨if (f its).size == its.size then n else n + 1, ?_⟩
  rw [Heap.get?_update_self _ ho rfl]
  simp only [Obj.mapSeq]
  rw [e]
section
variable {w : World} {hb : Heap} {L : Addr} {m : Str → Option Value} {own own' : List (Addr × Cel)} {A : Around} {E : Value → Shared → Prop} {s : Shared} {hp : Heap} {g : Array GenState} {d : Drawn} {tk : Nat} {os : OsState} {env : Env} {prog : Program} {l : Addr} {vs : List Value}
theorem gmL {name : Str} {id : String} {pl : Sem Bool} {M : Model} {Q : Value × List Value → Shared → Prop} (S : St hb s.heap L m own) (hm : (l, .lst vs) ∈ own) (slot : Slot "list" name id) (hty : typeOf (.builtin id) = pure (.type "method_descriptor"))
    (h : Q (.builtin id, [.ref l]) s) : wpAny M A (getMethod (.ref l) name pl) Q E s := by
  obtain ⟨n, e⟩ := S.mem hm
  exact getMethod_builtin ⟨_, e, rfl⟩ PySem.F.plainAttrs_list slot hty (fun a q => by cases q; exact ⟨_, e, rfl⟩) h
theorem appL {x : Value} {Q : Value → Shared → Prop} (S : St hb hp L m own) (U : Sets l (.lst vs) (.lst (vs ++ [x])) own own') (h : ∀ h', St hb h' L m own' → Q .none ⟨h', g, d, tk, os⟩) (hz : vs.length ≤ sizeLine) :
    wpAny (model prog w) A (call (.builtin "list.append") [.ref l, x]) Q E ⟨hp, g, d, tk, os⟩ := by
  obtain ⟨n, e⟩ := S.mem U.old
  exact append_at e (fun h' hs hg => h h' (S.sets U hs ⟨n + 1, by rw [hg]; simp⟩)) (by simpa using hz)
theorem popL {x : Value} {ws : List Value} {u : Tok} {Q : Value → Shared → Prop} (S : St hb hp L m own) (U : Sets l (.lst (x :: ws)) (.lst ws) own own') (h : ∀ h', St hb h' L m own' → Q x ⟨h', g, d, tk, os⟩) (hz : ws.length + 1 ≤ sizeLine) :
    wpAny (model prog w) A (call (.builtin "list.pop") [.ref l, .int 0 u]) Q E ⟨hp, g, d, tk, os⟩ := by
  obtain ⟨n, e⟩ := S.mem U.old
  refine call_meets PySem.F.slot_list_pop ⟨_, e, rfl⟩ PySem.F.entry_list_pop (PySem.F.args_list_pop_2 _ _) (MeetsSeq.list_pop_at l (x :: ws).toArray n 0 u 0 x (by decide) (by simp [seqIndex?]) (by simp) (by simpa using hz)) ⟨e, ?_⟩
  exact h _ (S.sets U (Heap.SameBut.update ..) (upd_lst e (by simp [Array.eraseIdxIfInBounds])))
theorem insL {x : Value} {k : Int} {u : Tok} {Q : Value → Shared → Prop} (S : St hb hp L m own) (U : Sets l (.lst vs) (.lst (vs.take k.toNat ++ x :: vs.drop k.toNat)) own own') (h0 : 0 ≤ k) (hk : k < 1000) (h : ∀ h', St hb h' L m own' → Q .none ⟨h', g, d, tk, os⟩) (hz : vs.length ≤ sizeLine) :
    wpAny (model prog w) A (call (.builtin "list.insert") [.ref l, .int k u, x]) Q E ⟨hp, g, d, tk, os⟩ := by
  obtain ⟨n, e⟩ := S.mem U.old
  refine call_meets PySem.F.slot_list_insert ⟨_, e, rfl⟩ PySem.F.entry_list_insert (PySem.F.args_list_insert_3 _ _ _) (AutoListH.list_insert_list_int_val_1 l vs.toArray n k u x ?_ (by simpa using hz)) ⟨e, ?_⟩
  · simp only [Builtin.List.listFitsIndex]
    simp
    (first | lia | omega)
  · refine h _ (S.sets U (Heap.SameBut.update ..) (upd_lst e ?_))
    apply Array.ext'
    have h1 : ¬ k < 0 := by (first | lia | omega)
    simp only [h1, if_false]
    simp only [List.size_toArray, Array.toList_append, Array.toList_push, Array.toList_extract, List.extract, List.append_assoc, List.cons_append, List.nil_append]
    rcases Nat.le_total k.toNat vs.length with q | q
    · rw [Nat.min_eq_left q]
      simp
      exact List.take_of_length_le (by simp)
    · rw [Nat.min_eq_right q]
      simp [List.drop_eq_nil_of_le q, List.take_of_length_le q]
theorem extL {b : Addr} {ws : List Value} {Q : Value → Shared → Prop} (S : St hb hp L m own) (hb' : (b, .lst ws) ∈ own) (U : Sets l (.lst vs) (.lst (vs ++ ws)) own own') (h : ∀ h', St hb h' L m own' → Q .none ⟨h', g, d, tk, os⟩) (hz : vs.length + ws.length ≤ 1000000) :
    wpAny (model prog w) A (call (.builtin "list.extend") [.ref l, .ref b]) Q E ⟨hp, g, d, tk, os⟩ := by
  obtain ⟨n, e⟩ := S.mem U.old
  obtain ⟨n2, e2⟩ := S.mem hb'
  have z : sizeLine = 16777216 := by decide
  refine call_meets PySem.F.slot_list_extend ⟨_, e, rfl⟩ PySem.F.entry_list_extend (PySem.F.args_list_extend_2 _ _) (AutoSeq1.list_extend_list_list_0 l vs.toArray n b ws.toArray n2 ?_ ?_ ?_) ⟨e, e2, ?_⟩
  · simp only [Builtin.List.listTooLong]
    simp
    intros
    (first | lia | omega)
  · simp; (first | lia | omega)
  · simp; (first | lia | omega)
  · exact h _ (S.sets U (Heap.SameBut.update ..) (upd_lst e (by simp)))
theorem revL {Q : Value → Shared → Prop} (S : St hb hp L m own) (U : Sets l (.lst vs) (.lst vs.reverse) own own') (h : ∀ h', St hb h' L m own' → Q .none ⟨h', g, d, tk, os⟩) (hz : vs.length ≤ sizeLine) :
    wpAny (model prog w) A (call (.builtin "list.reverse") [.ref l]) Q E ⟨hp, g, d, tk, os⟩ := by
  obtain ⟨n, e⟩ := S.mem U.old
  refine call_meets PySem.F.slot_list_reverse ⟨_, e, rfl⟩ PySem.F.entry_list_reverse (PySem.F.args_list_reverse_1 _) (AutoListH.list_reverse_list_0 l vs.toArray n (by simpa using hz)) ⟨e, ?_⟩
  exact h _ (S.sets U (Heap.SameBut.update ..) (upd_lst e (by simp)))
theorem lenL {Q : Value → Shared → Prop} (S : St hb hp L m own) (hm : (l, .lst vs) ∈ own) (h : ∀ t tk', Q (.int (vs.length : Nat) t) ⟨hp, g, d, tk', os⟩) (hz : vs.length < 1000000) : wpAny (model prog w) A (call (.builtin "len") [.ref l]) Q E ⟨hp, g, d, tk, os⟩ :=
  call_len_list (lst_isList (S.mem hm)) (by simp; (first | lia | omega)) (by simpa using h _ _)
theorem truL {Q : Bool → Shared → Prop} (S : St hb hp L m own) (hm : (l, .lst vs) ∈ own) (h : ∀ tk', Q (!vs.isEmpty) ⟨hp, g, d, tk', os⟩) (hz : vs.length < 1000000) : wpAny (model prog w) A (truthy (.ref l)) Q E ⟨hp, g, d, tk, os⟩ :=
  wpAny_truthy_list (lst_isList (S.mem hm)) (by simp; (first | lia | omega)) (by simpa using h _)
theorem subL {value slice : Expr} {k : Int} {u : Tok} {v : Value} {Q : Value → Shared → Prop} (S : St hb s.heap L m own) (hm : (l, .lst vs) ∈ own) (h0 : 0 ≤ k) (hhi : k < 1000000) (hx : vs[k.toNat]? = some v) (h : Q v s)
    (hs : subscripted slice false (.ref l) (.int k u) = operate [.ref l, .int k u] (getItem (.ref l) (.int k u)) := by with_unfolding_all rfl) :
    wpAny (model prog w) A (subscriptTail value slice (.ref l) (.int k u)) Q E s :=
  tail_any (lst_isList (S.mem hm)).typeIs slot_list_getitem.lookup (wpAny_getItem_list (lst_isList (S.mem hm)) h0 (by (first | lia | omega)) (by simpa using hx) h) hs
theorem newL {ws : List Value} {Q : Value → Shared → Prop} {M : Model} (S : St hb hp L m own) (h : ∀ h' a, St hb h' L m ((a, .lst ws) :: own) → Q (.ref a) ⟨h', g, d, tk, os⟩) (hsz : ws.length ≤ 1000000) : wpAny M A (newList ws) Q E ⟨hp, g, d, tk, os⟩ :=
  wpAny_newObj_type (h _ _ (S.push _ ⟨0, Heap.get?_push_size _ rfl⟩)) (by show ws.toArray.size ≤ sizeLine; rw [List.size_toArray]; have z : sizeLine = 16777216 := by decide
                                                                          (first | lia | omega))
noncomputable abbrev tupO (ws : List Value) : Obj := { cls := .type "tuple", data := .seq ws.toArray }
theorem newT {ws : List Value} {Q : Value → Shared → Prop} {M : Model} (S : St hb hp L m own) (h : ∀ h' a, St hb h' L m ((a, .obj (tupO ws)) :: own) → Q (.ref a) ⟨h', g, d, tk, os⟩) (hsz : ws.length ≤ 1000000) : wpAny M A (newTuple ws) Q E ⟨hp, g, d, tk, os⟩ :=
  wpAny_newObj_type (h _ _ (S.push _ (Heap.get?_push_size _ rfl))) (by show ws.toArray.size ≤ sizeLine; rw [List.size_toArray]; have z : sizeLine = 16777216 := by decide
                                                                       (first | lia | omega))
end
section
variable {w : World} {hb : Heap} {L : Addr} {m : Str → Option Value} {own own' : List (Addr × Cel)} {A : Around} {E : Value → Shared → Prop} {env : Env} {R : Result → Shared → Prop}
theorem while_inv {g : Array GenState} {d : Drawn} {os : OsState} {test : Expr} {body orelse : List Stmt} (I : Nat → Heap → Prop)
    (turn : ∀ n h tk (RL : Flow → Shared → Prop), (∀ f s₃, (match f with
            | .next | .cont => ∃ n' h' tk', n' < n ∧ s₃ = ⟨h', g, d, tk', os⟩ ∧ I n' h'
            | .brk => R (.ok .next) s₃
            | .ret v => R (.ok (.ret v)) s₃) → RL f s₃) → I n h → wpAny (model PG w) A (isTrue test env (eval test env)) (fun b s₂ =>
        if b then wpAny (model PG w) A (execs body env) RL NoE s₂
        else wpAny (model PG w) A (execs orelse env) (fun f s₃ => R (.ok f) s₃) NoE s₂) NoE ⟨h, g, d, tk, os⟩)
    (n : Nat) {h : Heap} {tk : Nat} (h0 : I n h) : codeAny (model PG w) A (.whileLoop test body orelse env) R ⟨h, g, d, tk, os⟩ := by
  induction n using Nat.strongRecOn generalizing h tk with
  | ind n ih =>
    refine while1 (wpAny_mono (turn n h tk _ (fun _ _ x => x) h0) (fun b s₂ h₂ => ?_) fun _ _ x => x)
    cases b with
    | false => exact h₂
    | true =>
      refine wpAny_mono h₂ (fun f s₃ h₃ => ?_) fun _ _ x => x
      cases f with
      | next => obtain ⟨n', h', tk', hn, rfl, hI⟩ := h₃; exact ih n' hn hI
      | cont => obtain ⟨n', h', tk', hn, rfl, hI⟩ := h₃; exact ih n' hn hI
      | brk => exact h₃
      | ret v => exact h₃
/-- a post under an opaque name -/
theorem genR {M : Model} {α : Type} {x : Sem α} {R0 : α → Shared → Prop} {s : Shared} (h : ∀ R : α → Shared → Prop, (∀ r s, R0 r s → R r s) → wpAny M A x R E s) : wpAny M A x R0 E s := h R0 fun _ _ x => x
theorem consG {M : Model} {st : Stmt} {rest : List Stmt} {Q : Flow → Shared → Prop} {s : Shared}
    (h : ∀ R : Flow → Shared → Prop, (∀ s, wpAny M A (execs rest env) Q E s → R .next s) → (∀ v s, Q (.ret v) s → R (.ret v) s) → (∀ s, Q .brk s → R .brk s) → (∀ s, Q .cont s → R .cont s) → wpAny M A (exec st env) R E s) :
    wpAny M A (execs (st :: rest) env) Q E s := wpAny_execs_cons (h _ (fun _ x => x) (fun _ _ x => x) (fun _ x => x) fun _ x => x)
/-- a for over a list of the ledger's -/
theorem forL_inv {g : Array GenState} {d : Drawn} {os : OsState} {x : Str} {px : Pos} {body : List Stmt} {l : Addr} {vs : List Value} (P : Nat → (Str → Option Value) → List (Addr × Cel) → Prop)
    (hP : ∀ i m own, P i m own → (l, .lst vs) ∈ own) (hA : A.handled = none)
    (turn : ∀ i v h tk m own J (RL : Flow → Shared → Prop), (∀ f s₃, (match f with
            | .next | .cont => ∃ h' tk' m' own', s₃ = ⟨h', g, d, tk', os⟩ ∧ St hb h' env.locals m' ((J, .lit l (i + 1)) :: own') ∧ P (i + 1) m' own'
            | .brk => R (.ok .next) s₃
            | .ret v => R (.ok (.ret v)) s₃) → RL f s₃) → vs[i]? = some v → P i m own → St hb h env.locals (fun y => if y = x then some v else m y) ((J, .lit l (i + 1)) :: own) →
      wpAny (model PG w) A (execs body env) RL NoE ⟨h, g, d, tk, os⟩)
    (fin : ∀ h tk m own, St hb h env.locals m own → P vs.length m own → R (.ok .next) ⟨h, g, d, tk, os⟩)
    {i : Nat} {h : Heap} {tk : Nat} {m : Str → Option Value} {own : List (Addr × Cel)} {J : Addr} (S : St hb h env.locals m ((J, .lit l i) :: own)) (h0 : P i m own) (hi : i ≤ vs.length)
    (hk : env.scope.kind = .function := by rfl) (hl : env.kindOf x = some .local := by rfl) : codeAny (model PG w) A (.forLoop (.Name x px) (.ref J) body [] env) R ⟨h, g, d, tk, os⟩ := by
  induction hn : vs.length - i generalizing i h tk m own with
  | zero =>
    have e : i = vs.length := by omega
    subst e
    refine for1 (endL hA S .head (.tail _ (hP _ _ _ h0)) (by simp) fun h' S' => ?_)
    exact wpAny_execs_nil (fin _ _ _ _ S' h0)
  | succ n ih =>
    have hlt : i < vs.length := by omega
    refine for1 (nextL S .head (.tail _ (hP _ _ _ h0)) (List.getElem?_eq_getElem hlt) fun h' S' => ?_)
    refine wpAny_assign_Name (stN S' (fun h2 tk2 S2 => ?_) hk hl)
    refine wpAny_mono (turn i _ h2 tk2 m own J _ (fun _ _ x => x) (List.getElem?_eq_getElem hlt) h0 S2) (fun f s₃ h₃ => ?_) fun _ _ x => x
    cases f with
    | next => obtain ⟨h', tk', m', own', rfl, S3, hp⟩ := h₃; exact ih S3 hp (by omega) (by omega)
    | cont => obtain ⟨h', tk', m', own', rfl, S3, hp⟩ := h₃; exact ih S3 hp (by omega) (by omega)
    | brk => exact h₃
    | ret v => exact h₃
end
theorem bindD {w : World} {hb : Heap} {L : Addr} {m : Str → Option Value} {own : List (Addr × Cel)} {s : Shared} (B : Bs w hb) (S : St hb s.heap L m own) {fd : FuncData} {args : Args} {binds : List (Str × Value)} {T : Addr} {o : Obj} {items : Array Value} {n : Nat}
    {k : Option (Array Value) → Sem (List (Str × Value))} (hd : fd.defaults = .ref T) (ho : (KK w.params).lookup T = some o) (hs : o.data = .seq items n)
    (h₁ : bindArgs fd args = seqItems? fd.defaults >>= k) (h₂ : k (some items) = pure binds) : BindsTo s fd args binds := BindsTo.of_defaults hd (S.keep _ _ (B.X _ _ ho)) hs h₁ h₂
theorem if_t {c : Prop} {d : Decidable c} {P Q : Prop} (hc : c) (h : P) : @ite _ c d P Q := by rw [if_pos hc]; exact h
theorem if_f {c : Prop} {d : Decidable c} {P Q : Prop} (hc : ¬ c) (h : Q) : @ite _ c d P Q := by rw [if_neg hc]; exact h
theorem if_s {c : Prop} {d : Decidable c} {P Q : Prop} (h : c → P) (h' : ¬ c → Q) : @ite _ c d P Q := by
  by_cases hc : c
  · exact if_t hc (h hc)
  · exact if_f hc (h' hc)
section
variable {w : World} {A : Around} {E : Value → Shared → Prop} {hp : Heap} {g : Array GenState} {d : Drawn} {tk : Nat} {os : OsState} {prog : Program} {a b n : Int} {t u : Tok} {Q : Value → Shared → Prop}
theorem fdiv_pos {a b : Int} (hb : 0 < b) : a.fdiv b = a / b := Int.fdiv_eq_ediv_of_nonneg _ (by omega)
theorem fmod_pos {a b : Int} (hb : 0 < b) : a.fmod b = a % b := Int.fmod_eq_emod_of_nonneg _ (by omega)
theorem intI {k : Int} {r : Nat} {pos : Pos} {env : Env} {M : Model} (h : ∀ t tk', Q (.int k t) ⟨hp, g, d, tk', os⟩) : wpAny M A (eval (.Constant (.int k) r pos) env) Q E ⟨hp, g, d, tk, os⟩ := wpAny_Constant_int (h _ _)
theorem strI {k : Str} {r : Nat} {pos : Pos} {env : Env} {M : Model} (h : ∀ t tk', Q (.str k t) ⟨hp, g, d, tk', os⟩) : wpAny M A (eval (.Constant (.str k) r pos) env) Q E ⟨hp, g, d, tk, os⟩ := wpAny_Constant_str (h _ _)
theorem gmI {pl : Sem Bool} {s : Shared} {Q : Value × List Value → Shared → Prop} (h : Q (.builtin "int.bit_length", [.int a t]) s) : wpAny (model prog w) A (getMethod (.int a t) (Str.ofString "bit_length") pl) Q E s := getMethod_int_bit_length h
theorem addI (h : ∀ t tk', Q (.int (a + b) t) ⟨hp, g, d, tk', os⟩) : wpAny (model prog w) A (binaryOp .Add (.int a t) (.int b u)) Q E ⟨hp, g, d, tk, os⟩ := PyProof.Rows.add_int (h _ _)
theorem iaddI (h : ∀ t tk', Q (.int (a + b) t) ⟨hp, g, d, tk', os⟩) : wpAny (model prog w) A (inplaceOp .Add (.int a t) (.int b u)) Q E ⟨hp, g, d, tk, os⟩ := PyProof.Rows.iadd_int (h _ _)
theorem subI (h : ∀ t tk', Q (.int (a - b) t) ⟨hp, g, d, tk', os⟩) : wpAny (model prog w) A (binaryOp .Sub (.int a t) (.int b u)) Q E ⟨hp, g, d, tk, os⟩ := PyProof.Rows.sub_int (h _ _)
theorem mulI (hm : IntMulOk a b) (h : ∀ t tk', Q (.int (a * b) t) ⟨hp, g, d, tk', os⟩) : wpAny (model prog w) A (binaryOp .Mult (.int a t) (.int b u)) Q E ⟨hp, g, d, tk, os⟩ := PyProof.Rows.mul_int (h _ _) hm
theorem fdivI (hb : 0 < b) (hs : b.natAbs < 1073741824) (h : ∀ t tk', Q (.int (a / b) t) ⟨hp, g, d, tk', os⟩) : wpAny (model prog w) A (binaryOp .FloorDiv (.int a t) (.int b u)) Q E ⟨hp, g, d, tk, os⟩ :=
  PyProof.Rows.floordiv_int (by omega) (by rw [fdiv_pos hb]; exact h _ _) (.inl (PyProof.noPylong_small hs))
theorem modI (hb : 0 < b) (h : ∀ t tk', Q (.int (a % b) t) ⟨hp, g, d, tk', os⟩) : wpAny (model prog w) A (binaryOp .Mod (.int a t) (.int b u)) Q E ⟨hp, g, d, tk, os⟩ :=
  PyProof.Rows.mod_int (by omega) (by rw [fmod_pos hb]; exact h _ _)
theorem rshI (hn : 0 ≤ n) (h : ∀ t tk', Q (.int (a / 2 ^ n.toNat) t) ⟨hp, g, d, tk', os⟩) : wpAny (model prog w) A (binaryOp .RShift (.int a t) (.int n u)) Q E ⟨hp, g, d, tk, os⟩ :=
  PyProof.Rows.rshift_int hn (by rw [fdiv_pos (Int.pow_pos (by decide))]; exact h _ _)
theorem lshI (hn : 0 ≤ n) (hsz : (Builtin.Int.intBits a : Int) + n ≤ 2 ^ 27) (h : ∀ t tk', Q (.int (a * 2 ^ n.toNat) t) ⟨hp, g, d, tk', os⟩) : wpAny (model prog w) A (binaryOp .LShift (.int a t) (.int n u)) Q E ⟨hp, g, d, tk, os⟩ :=
  PyProof.Rows.lshift_int hn hsz (h _ _)
theorem xorI (h : ∀ t tk', Q (.int (Builtin.bitXor a b) t) ⟨hp, g, d, tk', os⟩) : wpAny (model prog w) A (binaryOp .BitXor (.int a t) (.int b u)) Q E ⟨hp, g, d, tk, os⟩ := PyProof.Rows.xor_int (h _ _)
theorem invI (h : ∀ t tk', Q (.int (-a - 1) t) ⟨hp, g, d, tk', os⟩) : wpAny (model prog w) A (unaryOp .Invert (.int a t)) Q E ⟨hp, g, d, tk, os⟩ := PyProof.Rows.invert_int (h _ _)
theorem negI (h : ∀ t tk', Q (.int (-a) t) ⟨hp, g, d, tk', os⟩) : wpAny (model prog w) A (unaryOp .USub (.int a t)) Q E ⟨hp, g, d, tk, os⟩ := PyProof.Rows.neg_int (h _ _)
theorem powI (hn : 0 ≤ n) (hn2 : n ≤ 1000000) (ha : a.natAbs < 2 ^ 64) (h : ∀ t tk', Q (.int (a ^ n.toNat) t) ⟨hp, g, d, tk', os⟩) : wpAny (model prog w) A (binaryOp .Pow (.int a t) (.int n u)) Q E ⟨hp, g, d, tk, os⟩ :=
  pow_int_small hn hn2 ha (h _ _)
theorem absI (h : ∀ t tk', Q (.int (a.natAbs : Int) t) ⟨hp, g, d, tk', os⟩) : wpAny (model prog w) A (call (.builtin "abs") [.int a t]) Q E ⟨hp, g, d, tk, os⟩ :=
  call_abs_int fun u tk => by
    have e : (if a < 0 then -a else a) = (a.natAbs : Int) := by split <;> omega
    rw [e]; exact h _ _
theorem bitlenI (h : ∀ t tk', Q (.int (Builtin.Int.intBits a) t) ⟨hp, g, d, tk', os⟩) : wpAny (model prog w) A (call (.builtin "int.bit_length") [.int a t]) Q E ⟨hp, g, d, tk, os⟩ := call_int_bit_length (h _ _)
theorem lenS {x : Str} (hx : x.length < 1000000000) (h : ∀ t tk', Q (.int (x.length : Nat) t) ⟨hp, g, d, tk', os⟩) : wpAny (model prog w) A (call (.builtin "len") [.str x t]) Q E ⟨hp, g, d, tk, os⟩ := P.len_str (by omega) (h _ _)
theorem divmodI {hb : Heap} {L : Addr} {m : Str → Option Value} {own : List (Addr × Cel)} (S : St hb hp L m own) (hb0 : 0 < b) (hs : b.natAbs.log2 < 9000)
    (h : ∀ h' tk' a' t1 t2, St hb h' L m ((a', .obj (tupO [.int (a / b) t1, .int (a % b) t2])) :: own) → Q (.ref a') ⟨h', g, d, tk', os⟩) : wpAny (model prog w) A (call (.builtin "divmod") [.int a t, .int b u]) Q E ⟨hp, g, d, tk, os⟩ :=
  divmod_int (by omega) (h _ _ _ _ _ (S.push _ (by rw [fdiv_pos hb0, fmod_pos hb0]; exact Heap.get?_push_size _ rfl))) (.inl (PyProof.noPylong_of_log2 hs))
end
set_option hygiene false
local macro_rules | `(tactic| walk_at "mem") => `(tactic| first | assumption | exact List.Mem.head _ | (refine List.Mem.tail _ ?_; walk_at "mem"))
local macro_rules | `(tactic| walk_at "set") => `(tactic| first | assumption | exact Sets.head | (apply Sets.tail; walk_at "set"))
local macro_rules | `(tactic| walk_at "gone") => `(tactic| first | exact Gone.head | (apply Gone.tail; walk_at "gone"))
local macro_rules | `(tactic| walk_at "fn") => `(tactic| first | exact FnOr.b | exact FnOr.t | exact FnOr.k (by assumption) (by assumption) (by rfl) | exact FnOr.c (by assumption) (by assumption) (by rfl) | exact FnOr.o (by assumption) (by walk_at "mem") (by assumption) | exact FnOr.o (by assumption) (by walk_at "mem") (by rfl))
local macro_rules | `(tactic| walk_at "w") => `(tactic| first
  | ((with_reducible show wpAny _ _ (eval (Expr.Name _ _) _) _ _ _); first
      | refine nm (by assumption) (by walk_at "lk") ?_ | refine nmG (by assumption) (by assumption) (by rfl) ?_ | refine nmB (by assumption) (by assumption) (by rfl) ?_ | refine nmF (by assumption) (by rfl) (by walk_at "mem") ?_ | refine nmC (by assumption) (by rfl) (by walk_at "mem") ?_ | (refine nmLim (by assumption) (by assumption) ?_; intro t))
  | ((with_reducible refine consG ?_); intro R hNx hRv hBk hCt)
  | ((with_reducible refine hNx _ ?_); clear hNx hRv hBk hCt; try clear R)
  | ((with_reducible refine hRv _ _ ?_); clear hNx hRv hBk hCt; try clear R)
  | ((with_reducible refine hBk _ ?_); clear hNx hRv hBk hCt; try clear R)
  | ((with_reducible refine hCt _ ?_); clear hNx hRv hBk hCt; try clear R)
  | ((with_reducible refine hRL _ _ ?_); clear hRL; try clear RL)
  | ((with_reducible refine hRF _ _ ?_); clear hRF; try clear RF)
  | (with_reducible first | refine wpAny_execs_nil ?_ | refine wpAny_If ?_ | refine wpAny_Return_some ?_ | refine While_ ?_ | refine wpAny_Constant_bool ?_ | refine wpAny_Constant_none ?_ | refine wpAny_BinOp ?_ | refine wpAny_UnaryOp ?_ | refine Subscript_ ?_ | refine List_ ?_ | refine Tuple_ ?_ | refine wpAny_IfExp ?_ | refine wpAny_isTrue_Not ?_ | refine wpAny_items_nil ?_ | refine wpAny_truthy_bool ?_ | refine PyProof.Rows.truthy_int ?_ | refine lt_int ?_ | refine ge_int ?_ | refine le_int ?_ | refine eq_int ?_ | refine is_none_gen ?_ | refine wpAny_Break ?_ | refine wpAny_Continue ?_ | refine wpAny_Return_none ?_ | refine wpAny_AugAssign_Name ?_ | refine kws_cons ?_ | refine kws_nil ?_ | refine getMethod_int_bit_length ?_ | refine eqS ?_ | refine neS ?_ | refine Attribute_name ?_ | refine wpAny_assign_Name ?_ | refine eq_str ?_)
  | ((with_reducible first | refine intI ?_ | refine strE ofS_b ?_ | refine strE ofS_t ?_ | refine strE ofS_n ?_ | refine strE ofS_0 ?_ | refine strE ofS_x ?_ | refine strE ofS_w ?_ | refine strE ofS_q ?_ | refine strE ofS_s ?_ | refine strE ofS_e ?_ | refine strE ofS_d ?_ | refine strI ?_ | refine addI ?_ | refine subI ?_ | refine rsh1I ?_ | refine xorI ?_ | refine negI ?_ | refine invI ?_ | refine absI ?_ | refine bitlenI ?_); intro t tk)
  | ((with_reducible show wpAny _ _ (exec (Stmt.Assign [Expr.Name _ _] _ _) _) _ _ _); refine wpAny_Assign_Name ?_)
  | ((with_reducible show wpAny _ _ (exec (Stmt.For _ _ _ _ _) _) _ _ _); refine For_ ?_)
  | ((with_reducible show wpAny _ _ (eval (Expr.Compare _ [_] [_] _) _) _ _ _); refine wpAny_Compare1 ?_)
  | ((with_reducible show wpAny _ _ (eval (Expr.Call (Expr.Attribute _ _ _) _ [] _) _) _ _ _); refine MethodCall_ ?_)
  | ((with_reducible show wpAny _ _ (eval (Expr.Call (Expr.Name _ _) _ [] _) _) _ _ _); refine Call_ ?_)
  | ((with_reducible show wpAny _ _ (eval (Expr.Call (Expr.Name _ _) _ (_ :: _) _) _) _ _ _); refine wpAny_Call_Name_kw ?_)
  | ((with_reducible show wpAny _ _ (isTrue (Expr.Compare _ [_] [_] _) _ _) _ _ _); refine wpAny_isTrue_Compare1 ?_)
  | ((with_reducible show wpAny _ _ (PySem.isTrue _ _ _) _ _ _); refine isTrue_plain ?_)
  | ((with_reducible show wpAny _ _ (spliced (backTo _ (starEach (_ :: _) _))) _ _ _); refine wpAny_items_cons ?_)
  | ((with_reducible show wpAny _ _ (callWith _ _ [] (backTo _ (starEach (_ :: _) _)) []) _ _ _); refine cwn1 ?_)
  | ((with_reducible show wpAny _ _ (callWith _ _ [_] (backTo _ (starEach (_ :: _) _)) []) _ _ _); refine cws1 ?_)
  | ((with_reducible show wpAny _ _ (callWith _ _ [] (backTo _ (starEach [] _)) []) _ _ _); refine cwn0 (by walk_at "fn") ?_)
  | ((with_reducible show wpAny _ _ (callWith _ _ [_] (backTo _ (starEach [] _)) []) _ _ _); refine cws0 (by walk_at "fn") ?_)
  | ((with_reducible show wpAny _ _ (callWith _ _ _ (backTo _ (starEach (_ :: _) _)) (backToKw _ (keywordEach _ _))) _ _ _); refine cwk ?_)
  | ((with_reducible show FnOr _ _ ∧ _); refine ⟨by walk_at "fn", ?_⟩)
  | ((with_reducible show wpAny _ _ (truthy (Value.ref _)) _ _ _); refine truL (by assumption) (by walk_at "mem") ?_ (by walk_at "sz"); intro tk)
  | ((with_reducible show wpAny _ _ (binaryOp Operator.FloorDiv (Value.int _ _) (Value.int _ _)) _ _ _); refine fdivI (by omega) (by omega) ?_; intro t tk)
  | ((with_reducible show wpAny _ _ (binaryOp Operator.Mod (Value.int _ _) (Value.int _ _)) _ _ _); refine modI (by omega) ?_; intro t tk)
  | ((with_reducible show wpAny _ _ (binaryOp Operator.Mult (Value.int _ _) (Value.int _ _)) _ _ _); refine mulI (by walk_at "mo") ?_; intro t tk)
  | ((with_reducible show wpAny _ _ (exec (Stmt.Expr _ _) _) _ _ _); refine wpAny_Expr_any ?_)
  | ((with_reducible show wpAny _ _ (loadName _ _) _ _ _); refine ldN (by assumption) (by walk_at "lk") ?_)
  | ((with_reducible show wpAny _ _ (exec (Stmt.Assign [Expr.Tuple _ _ _] _ _) _) _ _ _); refine Assign_Tuple ?_)
  | ((with_reducible show wpAny _ _ (getMethod (Value.ref _) _ _) _ _ _); first
      | refine gmL (by assumption) (by walk_at "mem") PySem.F.slot_list_append PySem.F.type_list_append ?_
      | refine gmL (by assumption) (by walk_at "mem") PySem.F.slot_list_pop PySem.F.type_list_pop ?_
      | refine gmL (by assumption) (by walk_at "mem") PySem.F.slot_list_extend PySem.F.type_list_extend ?_
      | refine gmL (by assumption) (by walk_at "mem") PySem.F.slot_list_insert PySem.F.type_list_insert ?_
      | refine gmL (by assumption) (by walk_at "mem") PySem.F.slot_list_reverse PySem.F.type_list_reverse ?_)
  | ((with_reducible show wpAny _ _ (call (Value.builtin "list.append") [Value.ref _, _]) _ _ _); refine appL (by assumption) (by walk_at "set") ?_ (by walk_at "szl"); intro h S)
  | ((with_reducible show wpAny _ _ (call (Value.builtin "list.pop") [Value.ref _, Value.int 0 _]) _ _ _); refine popL (by assumption) (by walk_at "set") ?_ (by walk_at "szl"); intro h S)
  | ((with_reducible show wpAny _ _ (call (Value.builtin "list.extend") [Value.ref _, Value.ref _]) _ _ _); refine extL (by assumption) (by walk_at "mem") (by walk_at "set") ?_ (by walk_at "sz"); intro h S)
  | ((with_reducible show wpAny _ _ (call (Value.builtin "list.reverse") [Value.ref _]) _ _ _); refine revL (by assumption) (by walk_at "set") ?_ (by walk_at "szl"); intro h S)
  | ((with_reducible show wpAny _ _ (assign (Expr.Tuple [Expr.Name _ _, Expr.Name _ _] _ _) _ (Value.ref _)) _ _ _); refine unT2 (by first | assumption | exact hA) (by assumption) (by walk_at "mem") ?_; intro h tk S)
  | ((with_reducible show wpAny _ _ (call (Value.type "reversed") [Value.ref _]) _ _ _); refine revI (by assumption) (by walk_at "mem") ?_; intro h l S)
  | ((with_reducible show wpAny _ _ (eval (Expr.Lambda _ _ _ _) _) _ _ _); refine kla_eval rfl ?_)
  | ((with_reducible show wpAny _ _ (binaryOp Operator.Mult (Value.str (st _) _) (Value.int _ _)) _ _ _); refine mulS (by walk_at "sz") (by walk_at "sz") ?_; intro t tk)
  | ((with_reducible show wpAny _ _ (binaryOp Operator.Add (Value.str (st _) _) (Value.str (st _) _)) _ _ _); refine addS (by walk_at "sz") ?_; intro t tk)
  | ((with_reducible show wpAny _ _ (inplaceOp Operator.Add (Value.str (st _) _) (Value.str (st _) _)) _ _ _); refine iaddS (by walk_at "sz") ?_; intro t tk)
  | ((with_reducible show wpAny _ _ (call (Value.builtin "len") [Value.str (st _) _]) _ _ _); refine lenSt (by walk_at "sz") ?_; intro t tk)
  | (with_reducible first | refine GM.join ?_ | refine GM.count ?_)
  | ((with_reducible show wpAny _ _ (exec (Stmt.Assign [Expr.Attribute _ _ _] _ _) _) _ _ _); refine plainObj_wpAny_Assign_Attribute ?_)
  | ((with_reducible show wpAny _ _ (setAttr (Value.ref _) _ _) _ _ _); refine setA (by assumption) (by assumption) (by walk_at "mem") (by walk_at "set") (by exact Nat.le_of_ble_eq_true rfl) ?_ (by rfl) (by rfl) (by rfl) (by rfl); intro h tk S)
  | ((with_reducible show wpAny _ _ (getAttr (Value.ref _) _ _) _ _ _); refine getA (by assumption) (by assumption) (by walk_at "mem") (by walk_at "mem") (by first | assumption | rfl) (by rfl) ?_ (by rfl) (by rfl) (by rfl); intro tk)
  | ((with_reducible show wpAny _ _ (exec (Stmt.Assign [_, _, _] _ _) _) _ _ _); refine wpAny_Assign_three ?_)
  | ((with_reducible show wpAny _ _ (call (Value.type "tuple") [Value.ref _]) _ _ _); refine tupL (by assumption) (by walk_at "mem") (by walk_at "sz") ?_; intro h l S)
  | ((with_reducible show wpAny _ _ (call (Value.type "range") [Value.int _ _, Value.int _ _]) _ _ _); refine rng2 (by assumption) ?_; intro h tk l S)
  | ((with_reducible show wpAny _ _ (call (Value.type "range") [Value.int _ _]) _ _ _); refine rng1 (by assumption) ?_; intro h tk l S)
  | ((with_reducible show wpAny _ _ (newList _) _ _ _); refine newL (by assumption) ?_ (by walk_at "sz"); intro h l S)
  | ((with_reducible show wpAny _ _ (newTuple _) _ _ _); refine newT (by assumption) ?_ (by walk_at "sz"); intro h l S)
  | ((with_reducible show wpAny _ _ (exec (Stmt.FunctionDef _ _ _ [] _ [] _ _ _ _) _) _ _ _); refine nestDef_K rfl rfl rfl ?_)
  | ((with_reducible show wpAny _ _ (exec (Stmt.Assign [Expr.Subscript _ _ _] _ _) _) _ _ _); refine wpAny_Assign_Subscript ?_)
  | ((with_reducible show wpAny _ _ (binaryOp Operator.Mult (Value.ref _) (Value.int _ _)) _ _ _); refine mulL (by assumption) (by walk_at "mem") (by walk_at "sz") ?_ (by walk_at "sz"); intro h l S _)
  | ((with_reducible show wpAny _ _ (binaryOp Operator.Add (Value.ref _) (Value.ref _)) _ _ _); refine addL2 (by assumption) (by walk_at "mem") (by walk_at "mem") (by walk_at "sz") ?_; intro h l S)
  | ((with_reducible show wpAny _ _ (call (Value.builtin "len") [Value.str _ _]) _ _ _); refine lenS (by walk_at "sz") ?_; intro t tk)
  | ((with_reducible show wpAny _ _ (call (Value.builtin "len") [Value.ref _]) _ _ _); (first | refine lenL (by assumption) (by walk_at "mem") ?_ (by walk_at "sz") | refine lenT (by assumption) (by walk_at "mem") (by walk_at "sz") ?_); intro t tk)
  | ((with_reducible show wpAny _ _ (storeName _ _ _) _ _ _); first | (refine stN (by assumption) ?_; intro h tk S) | (refine stC (by assumption) (by rfl) (by walk_at "set") ?_; intro h S))
  | (dsimp only [List.cons_append, List.nil_append, List.append_nil]; fail_if_success skip))
local macro_rules | `(tactic| walk_at "lk") => `(tactic| first | rfl | assumption | (refine (if_pos (by decide)).trans ?_; rfl) | (refine (if_neg (by decide)).trans ?_; walk_at "lk"))
local macro_rules | `(tactic| walk_at "ar") => `(tactic| first | rfl | exact Bool.false_ne_true | omega | (simp only [decide_eq_true_eq, decide_eq_false_iff_not, Bool.not_eq_true, Bool.not_eq_true', Bool.not_eq_false', beq_iff_eq, bne_iff_ne, beq_eq_false_iff_ne, ne_eq, Bool.not_eq_eq_eq_not, Bool.not_true, Bool.not_false]; omega) | decide | (simp; done))
local macro_rules | `(tactic| walk_at "if") => `(tactic| first | refine if_t (by walk_at "ar") ?_ | refine if_f (by walk_at "ar") ?_)
local macro_rules | `(tactic| walk_at "ww") => `(tactic| repeat (first | walk_at "w" | ((with_reducible show ite _ _ _); walk_at "if")))
local macro_rules | `(tactic| walk_at "sz") => `(tactic| first | omega | (simp only [List.length_cons, List.length_nil, List.length_append, List.length_map, List.length_replicate, List.length_reverse]; omega))
local macro_rules | `(tactic| walk_at "mo") => `(tactic| first | assumption | exact IntMulOk.of_left (by decide) | exact IntMulOk.of_right (by decide))
local macro_rules | `(tactic| walk_at "szl") => `(tactic| (have z : sizeLine = 16777216 := by decide); first | omega | (simp only [List.length_cons, List.length_nil, List.length_append, List.length_map, List.length_replicate, List.length_reverse]; omega))
local macro_rules | `(tactic| walk_at "sw") => `(tactic| first | exact hW _ | exact Sw.re hW _ _ | (apply Sw.there; walk_at "sw"))
local macro_rules | `(tactic| walk_at "sl") => `(tactic| first | with_reducible exact List.Sublist.refl _ | ((with_reducible refine List.Sublist.cons_cons _ ?_); walk_at "sl") | ((with_reducible refine List.Sublist.cons _ ?_); walk_at "sl"))
set_option hygiene true
theorem half_spec {w : World} {hb : Heap} {L : Addr} {m : Str → Option Value} {own : List (Addr × Cel)} {A : Around} {E : Value → Shared → Prop} {hp : Heap} {g : Array GenState} {d : Drawn} {tk : Nat} {os : OsState} {Q : Value → Shared → Prop} (B : Bs w hb) (S : St hb hp L m own) {x : Str} {t : Tok}
    (hr : A.depth < recursionLimit) (hx : x.length ≤ 1000)
    (h : ∀ h' tk t', St hb h' L m own → Q (.int (x.length / 2 : Nat) t') ⟨h', g, d, tk, os⟩) : wpAny (model PG w) A (call (.ref 213) [.str x t]) Q E ⟨hp, g, d, tk, os⟩ := by
  refine wpAny_call ?_
  refine callK (binds := [("word", .str x t)]) B S (by rfl) (by rfl) hr (.of_eq rfl) (by rfl) (fun h1 L1 tk1 S1 => genR fun RF hRF => ?_)
  repeat walk_at "w"
  have e : (x.length : Int) / 2 = ((x.length / 2 : Nat) : Int) := by omega
  rw [e]
  exact h _ _ _ S1.leave
structure KeyOk (w : World) (hb : Heap) (kv : Value) (F : Value → Int → Prop) (Kp : List (Addr × Cel) → Prop) : Prop where
  call : ∀ {A : Around} {E : Value → Shared → Prop} {hp : Heap} {g : Array GenState} {d : Drawn} {tk : Nat} {os : OsState} {Q : Value → Shared → Prop} {L : Addr} {m : Str → Option Value} {own : List (Addr × Cel)} {k : Int} {v : Value}, F v k → St hb hp L m own → Kp own → A.depth + 5 < recursionLimit →
    (∀ h' tk t', St hb h' L m own → Q (.int k t') ⟨h', g, d, tk, os⟩) → wpAny (model PG w) A (PySem.call kv [v]) Q E ⟨hp, g, d, tk, os⟩
  fn : ∀ {h : Heap} {L : Addr} {m : Str → Option Value} {own : List (Addr × Cel)}, St hb h L m own → Kp own → FnOr kv h
  up : ∀ p own, Kp own → Kp (p :: own)
  nn : (kv == Value.none) = false
theorem key_len {w : World} {hb : Heap} : KeyOk w hb (.builtin "len") (fun v k => ∃ s t, v = .str s t ∧ s.length ≤ 1000 ∧ k = s.length) (fun _ => True) where
  call := by
    rintro A E hp g d tk os Q L m own k v ⟨s, t, rfl, hs, rfl⟩ S _ _ h
    exact lenS (by omega) fun t tk => h _ _ _ S
  fn := fun _ _ => FnOr.b
  up := fun _ _ _ => trivial
  nn := by decide
theorem key_half {w : World} {hb : Heap} (B : Bs w hb) : KeyOk w hb (.ref 213) (fun v k => ∃ s t, v = .str s t ∧ s.length ≤ 1000 ∧ k = (s.length / 2 : Nat)) (fun _ => True) where
  call := by
    rintro A E hp g d tk os Q L m own k v ⟨s, t, rfl, hs, rfl⟩ S _ hr h
    exact half_spec B S (by omega) (by omega) fun h' tk t S => h _ _ _ S
  fn := fun S _ => FnOr.k B S (by rfl)
  up := fun _ _ _ => trivial
  nn := by decide
theorem bisect_gen {w : World} {hb : Heap} {L : Addr} {m : Str → Option Value} {own : List (Addr × Cel)} {A : Around} {E : Value → Shared → Prop} {hp : Heap} {g : Array GenState} {d : Drawn} {tk : Nat} {os : OsState} {Q : Value → Shared → Prop} (B : Bs w hb) (S : St hb hp L m own)
    {args : List Value} {l : Addr} {vs : List Value} {x lo : Int} {tx tl : Tok} {hiV kv : Value} {f : Nat → Int} {F : Value → Int → Prop} {Kp : List (Addr × Cel) → Prop} (hbd : ∀ {fd : FuncData} {oc od osl}, (KK w.params).lookup 147 = some ⟨oc, od, .func fd, osl⟩ → BindsTo ⟨hp, g, d, tk, os⟩ fd ⟨args, [("key", kv)]⟩ [("a", .ref l), ("x", .int x tx), ("lo", .int lo tl), ("hi", hiV), ("key", kv)]) (hl : (l, .lst vs) ∈ own) (K : KeyOk w hb kv F Kp) (hF : ∀ i v, vs[i]? = some v → F v (f i)) (hK : Kp own) (hi : Nat)
    (hhi : hiV = .none ∧ hi = vs.length ∨ (∃ t, hiV = .int hi t) ∧ hi ≤ vs.length) (hlo : 0 ≤ lo) (hz : vs.length < 1000) (mono : ∀ i j : Nat, lo ≤ i → i ≤ j → j < hi → f i ≤ f j)
    (hr : A.depth + 10 < recursionLimit)
    (h : ∀ h' tk t' r, St hb h' L m own → (lo ≤ r ∧ (r ≤ hi ∨ r = lo)) → (∀ i : Nat, lo ≤ i → i < r → f i ≤ x) → (∀ i : Nat, r ≤ i → i < hi → x < f i) → Q (.int r t') ⟨h', g, d, tk, os⟩) :
    wpAny (model PG w) A (PySem.call (.ref 147) args [("key", kv)]) Q E ⟨hp, g, d, tk, os⟩ := by
  refine wpAny_call ?_
  refine callK (binds := [("a", .ref l), ("x", .int x tx), ("lo", .int lo tl), ("hi", hiV), ("key", kv)]) B S (by rfl) (by rfl) (by omega) (hbd (by rfl)) (by rfl) (fun h1 L1 tk1 S1 => genR fun RF hRF => ?_)
  repeat (first | ((fail_if_success (with_reducible show wpAny _ _ (exec (Stmt.If (Expr.Compare _ [CmpOp.Is] _ _) _ _ _) _) _ _ _)); walk_at "w") | ((with_reducible show ite _ _ _); walk_at "if"))
  refine wpAny_mono (Q := fun f₁ s₁ => f₁ = .next ∧ ∃ h' tk m' t', s₁ = ⟨h', g, d, tk, os⟩ ∧ St hb h' L1 m' ((L, Cel.ns m) :: own) ∧ m' "a" = some (.ref l) ∧ m' "x" = some (.int x tx) ∧ m' "key" = some kv ∧ m' "lo" = some (.int lo tl) ∧ m' "hi" = some (.int hi t')) ?_ ?_ (fun _ _ x => x)
  · walk_at "w"
    walk_at "ww"
    rcases hhi with ⟨rfl, e⟩ | ⟨⟨t1, rfl⟩, _⟩
    · walk_at "ww"
      rw [e]
      exact ⟨rfl, _, _, _, _, rfl, S, by walk_at "lk", by walk_at "lk", by walk_at "lk", by walk_at "lk", by walk_at "lk"⟩
    · walk_at "ww"
      exact ⟨rfl, _, _, _, _, rfl, S1, by walk_at "lk", by walk_at "lk", by walk_at "lk", by walk_at "lk", by walk_at "lk"⟩
  · rintro f₁ s₁ ⟨rfl, h2, tk2, m2, t2, rfl, S2, ma, mx, mk, mlo, mhi⟩
    clear S1
    walk_at "ww"
    refine if_f (by rw [K.nn]; exact Bool.false_ne_true) ?_
    walk_at "ww"
    refine while_inv (fun n h' => ∃ m' lo' hi' t1 t2, St hb h' L1 m' ((L, Cel.ns m) :: own) ∧ m' "a" = some (.ref l) ∧ m' "x" = some (.int x tx) ∧ m' "key" = some kv ∧ m' "lo" = some (.int lo' t1) ∧ m' "hi" = some (.int hi' t2) ∧
      n = (hi' - lo').toNat ∧ lo ≤ lo' ∧ (lo' ≤ hi' ∨ (lo' = lo ∧ hi' = hi)) ∧ hi' ≤ hi ∧ (∀ i : Nat, lo ≤ i → i < lo' → f i ≤ x) ∧ (∀ i : Nat, hi' ≤ i → i < hi → x < f i)) ?_ ((hi : Int) - lo).toNat (exI5 m2 lo hi tl t2 ⟨S2, ma, mx, mk, mlo, mhi, rfl, by omega, by omega, by omega, fun i _ _ => by omega, fun i _ _ => by omega⟩)
    intro n h3 tk3 RL hRL hI0
    refine exE5 hI0 fun m3 lo3 hi3 t13 t23 hI1 => anE12 hI1 fun S3 ma3 mx3 mk3 mlo3 mhi3 e1 k1 k2 k3 k4 k5 => ?_
    clear hI0 hI1
    subst e1
    walk_at "ww"
    refine if_s (fun hc => ?_) (fun hc => ?_)
    · have hc : lo3 < hi3 := of_decide_eq_true hc
      walk_at "ww"
      refine subL (by assumption) (by walk_at "mem") (by omega) (by omega) (List.getElem?_eq_getElem (by omega)) ?_
      walk_at "ww"
      refine ⟨K.fn (by assumption) (K.up _ _ hK), ?_⟩
      walk_at "ww"
      refine K.call (hF _ _ (List.getElem?_eq_getElem (by omega))) (by assumption) (K.up _ _ hK) (by show A.depth + 1 + 5 < _; omega) ?_
      intro h tk t S
      walk_at "ww"
      refine if_s (fun hd => ?_) (fun hd => ?_)
      · have hd := of_decide_eq_true hd
        walk_at "ww"
        refine exI3 _ _ _ ⟨?_, rfl, exI5 _ _ _ _ _ ⟨S, by walk_at "lk", by walk_at "lk", by walk_at "lk", by walk_at "lk", by walk_at "lk", rfl, by omega, by omega, by omega, k4, ?_⟩⟩
        · omega
        · intro i h1 h2
          have := mono ((lo3 + hi3) / 2).toNat i (by omega) (by omega) h2
          omega
      · have hd : ¬ x < _ := fun q => hd (decide_eq_true q)
        walk_at "ww"
        refine exI3 _ _ _ ⟨?_, rfl, exI5 _ _ _ _ _ ⟨S, by walk_at "lk", by walk_at "lk", by walk_at "lk", by walk_at "lk", by walk_at "lk", rfl, by omega, by omega, by omega, ?_, k5⟩⟩
        · omega
        · intro i h1 h2
          have := mono i ((lo3 + hi3) / 2).toNat h1 (by omega) (by omega)
          omega
    · have hc : ¬ lo3 < hi3 := fun q => hc (decide_eq_true q)
      walk_at "ww"
      exact h _ _ _ _ S3.leave ⟨by omega, by omega⟩ (fun i h1 h2 => k4 i h1 h2) (fun i h1 h2 => k5 i (by omega) h2)
theorem bisect_spec {w : World} {hb : Heap} {L : Addr} {m : Str → Option Value} {own : List (Addr × Cel)} {A : Around} {E : Value → Shared → Prop} {hp : Heap} {g : Array GenState} {d : Drawn} {tk : Nat} {os : OsState} {Q : Value → Shared → Prop} (B : Bs w hb) (S : St hb hp L m own)
    {l : Addr} {vs : List Value} {x lo : Int} {tx tl : Tok} {hiV kv : Value} {f : Nat → Int} {F : Value → Int → Prop} {Kp : List (Addr × Cel) → Prop} (hl : (l, .lst vs) ∈ own) (K : KeyOk w hb kv F Kp) (hF : ∀ i v, vs[i]? = some v → F v (f i)) (hK : Kp own) (hi : Nat)
    (hhi : hiV = .none ∧ hi = vs.length ∨ (∃ t, hiV = .int hi t) ∧ hi ≤ vs.length) (hlo : 0 ≤ lo) (hz : vs.length < 1000) (mono : ∀ i j : Nat, lo ≤ i → i ≤ j → j < hi → f i ≤ f j)
    (hr : A.depth + 10 < recursionLimit)
    (h : ∀ h' tk t' r, St hb h' L m own → (lo ≤ r ∧ (r ≤ hi ∨ r = lo)) → (∀ i : Nat, lo ≤ i → i < r → f i ≤ x) → (∀ i : Nat, r ≤ i → i < hi → x < f i) → Q (.int r t') ⟨h', g, d, tk, os⟩) :
    wpAny (model PG w) A (PySem.call (.ref 147) [.ref l, .int x tx, .int lo tl, hiV] [("key", kv)]) Q E ⟨hp, g, d, tk, os⟩ := by
  refine bisect_gen (tx := tx) (tl := tl) B S (fun {fd oc od osl} e => ?_) hl K hF hK hi hhi hlo hz mono hr h
  rw [show (KK w.params).lookup 147 = some ⟨_, _, .func _, _⟩ from rfl] at e
  injection e with e
  injection e with _ _ e _
  injection e with e
  subst e
  exact bindD B S rfl (by rfl) rfl rfl rfl
theorem insort_spec {w : World} {hb : Heap} {L : Addr} {m : Str → Option Value} {own : List (Addr × Cel)} {A : Around} {E : Value → Shared → Prop} {hp : Heap} {g : Array GenState} {d : Drawn} {tk : Nat} {os : OsState} {Q : Value → Shared → Prop} (B : Bs w hb) (S : St hb hp L m own)
    {l : Addr} {vs : List Value} {x kv : Value} {kx : Int} {f : Nat → Int} {F : Value → Int → Prop} {own2 : List Value → List (Addr × Cel)} (hU : ∀ vs', Sets l (.lst vs) (.lst vs') own (own2 vs')) (K : KeyOk w hb kv F (fun _ => True)) (hF : ∀ i v, vs[i]? = some v → F v (f i)) (hx : F x kx)
    (hz : vs.length < 900) (mono : ∀ i j : Nat, i ≤ j → j < vs.length → f i ≤ f j) (hr : A.depth + 12 < recursionLimit)
    (hQ : ∀ h' tk (r : Nat), St hb h' L m (own2 (vs.take r ++ x :: vs.drop r)) → r ≤ vs.length → (∀ i : Nat, i < r → f i ≤ kx) → (∀ i : Nat, r ≤ i → i < vs.length → kx < f i) → Q .none ⟨h', g, d, tk, os⟩) :
    wpAny (model PG w) A (PySem.call (.ref 138) [.ref l, x] [("key", kv)]) Q E ⟨hp, g, d, tk, os⟩ := by
  have hl := (hU vs).old
  refine wpAny_call ?_
  refine callK (binds := [("a", .ref l), ("x", x), ("lo", .int 0 _), ("hi", .none), ("key", kv)]) B S (by rfl) (by rfl) (by omega) (bindD B S rfl (by rfl) rfl rfl rfl) (by rfl) (fun h1 L1 tk1 S1 => genR fun RF hRF => ?_)
  walk_at "ww"
  refine if_f (by rw [K.nn]; exact Bool.false_ne_true) ?_
  walk_at "ww"
  refine ⟨K.fn (by assumption) trivial, ?_⟩
  refine K.call hx (by assumption) trivial (by show A.depth + 1 + 5 < _; omega) ?_
  intro h tk t S
  walk_at "ww"
  refine bisect_spec B S (by walk_at "mem") K hF trivial vs.length (.inl ⟨rfl, rfl⟩) (by omega) (by omega) (fun i j _ => mono i j) (by show A.depth + 1 + 10 < _; omega) ?_
  intro h tk t r S hr1 hr2 hr3
  walk_at "ww"
  refine insL (by assumption) (Sets.tail (hU _)) (by omega) (by omega) ?_ (by walk_at "szl")
  intro h S
  walk_at "ww"
  obtain ⟨r, rfl⟩ : ∃ n : Nat, r = n := ⟨r.toNat, by omega⟩
  exact hQ _ _ r S.leave (by omega) (fun i hi => hr2 i (by omega) (by omega)) (fun i h1 h2 => hr3 i (by omega) h2)
/-- the tail of the ledger put in another's place -/
inductive Sw (bs bs' : List (Addr × Cel)) : List (Addr × Cel) → List (Addr × Cel) → Prop
  | here : Sw bs bs' bs bs'
  | there {p o o'} : Sw bs bs' o o' → Sw bs bs' (p :: o) (p :: o')
theorem Sw.split {bs bs' o o' : List (Addr × Cel)} (W : Sw bs bs' o o') : ∃ pre, o = pre ++ bs ∧ o' = pre ++ bs' := by
  induction W with
  | here => exact ⟨[], rfl, rfl⟩
  | @there p _ _ _ ih => obtain ⟨pre, rfl, rfl⟩ := ih; exact ⟨p :: pre, rfl, rfl⟩
theorem Sw.mem {bs bs' o o' : List (Addr × Cel)} (W : Sw bs bs' o o') {p} (h : p ∈ bs) : p ∈ o := by
  obtain ⟨pre, rfl, rfl⟩ := W.split; exact List.mem_append_right _ h
theorem Sw.mem' {bs bs' o o' : List (Addr × Cel)} (W : Sw bs bs' o o') {p} (h : p ∈ bs') : p ∈ o' := by
  obtain ⟨pre, rfl, rfl⟩ := W.split; exact List.mem_append_right _ h
noncomputable abbrev codeTab (l c : Int) (c' : Addr) : Obj := tabObj #[rawInt l, rawInt c, .ref c']
noncomputable def TabIn (P : Addr) (l c : Int) (qual : Str) (bs : List (Addr × Cel)) : Prop :=
  (P, Cel.obj (tabObj #[])) ∈ bs ∨ ∃ c' oc vs t, (P, Cel.obj (codeTab l c c')) ∈ bs ∧ (c', Cel.obj oc) ∈ bs ∧ oc.data = .fields vs ∧ vs[1]? = some (.str qual t)
/-- the same but at one address, to which new ones come -/
noncomputable def swp (P : Addr) (o : Obj) (bs : List (Addr × Cel)) : List (Addr × Cel) := bs.map fun p => if p.1 = P then (P, .obj o) else p
theorem swp_fst {P : Addr} {o : Obj} {bs : List (Addr × Cel)} : (swp P o bs).map (·.1) = bs.map (·.1) := by
  unfold swp
  rw [List.map_map]
  refine List.map_congr_left fun p _ => ?_
  show (if p.1 = P then _ else p).1 = p.1
  split
  · rename_i e; exact e.symm
  · rfl
theorem swp_mem {P : Addr} {o : Obj} {bs : List (Addr × Cel)} {p : Addr × Cel} (h : p ∈ bs) (hn : p.1 ≠ P) : p ∈ swp P o bs :=
  List.mem_map.mpr ⟨p, h, if_neg hn⟩
theorem swp_self {P : Addr} {o : Obj} {bs : List (Addr × Cel)} {c : Cel} (h : (P, c) ∈ bs) : (P, .obj o) ∈ swp P o bs :=
  List.mem_map.mpr ⟨_, h, if_pos rfl⟩
theorem nodup_eq {l : List (Addr × Cel)} (nd : (l.map (·.1)).Nodup) {a : Addr} {c c' : Cel} (h : (a, c) ∈ l) (h' : (a, c') ∈ l) : c = c' := by
  induction l with
  | nil => cases h
  | cons p l ih =>
    rw [List.map_cons, List.nodup_cons] at nd
    rcases List.mem_cons.mp h with e | h <;> rcases List.mem_cons.mp h' with e' | h'
    · rw [← e'] at e; exact (Prod.mk.inj e).2
    · exact absurd (List.mem_map_of_mem (f := (·.1)) h') (by rw [← e] at nd; exact nd.1)
    · exact absurd (List.mem_map_of_mem (f := (·.1)) h) (by rw [← e'] at nd; exact nd.1)
    · exact ih nd.2 h h'
theorem TabIn.swp {P P' : Addr} {l c l' c' : Int} {qual qual' : Str} {bs : List (Addr × Cel)} {o : Obj} {cd : Addr} {oc : Obj} (T : TabIn P' l' c' qual' bs) (hn : P' ≠ P) (nd : (bs.map (·.1)).Nodup) (hP : (P, Cel.obj (tabObj #[])) ∈ bs) :
    TabIn P' l' c' qual' ((cd, .obj oc) :: swp P o bs) := by
  rcases T with h | ⟨c1, oc1, vs, t, h1, h2, h3, h4⟩
  · exact .inl (.tail _ (swp_mem h hn))
  · refine .inr ⟨c1, oc1, vs, t, .tail _ (swp_mem h1 hn), .tail _ (swp_mem h2 fun q => ?_), h3, h4⟩
    subst q
    have e := nodup_eq nd hP h2
    cases e
    cases h3
    cases h4
section
variable {w : World} {hb h h' : Heap} {L : Addr} {m : Str → Option Value} {own own' bs : List (Addr × Cel)} {A : Around} {E : Value → Shared → Prop} {hp : Heap} {g : Array GenState} {d : Drawn} {tk : Nat} {os : OsState} {env : Env}
theorem St.swp (S : St hb h L m own) {P cd : Addr} {o0 o oc : Obj} (hW : Sw bs ((cd, .obj oc) :: swp P o bs) own own') (hP : (P, Cel.obj o0) ∈ bs) (hx : Heap.ExtBut P h h') (hcd : h.objs.size ≤ cd) (ho : h'.get? P = some o) (hoc : h'.get? cd = some oc) : St hb h' L m own' := by
  obtain ⟨pre, rfl, rfl⟩ := hW.split
  have hPm : (P, Cel.obj o0) ∈ pre ++ bs := List.mem_append_right _ hP
  have hn := (S.has _ hPm).2.none
  have hPlt : P < h.objs.size := S.lt hPm
  have nd := (List.nodup_cons.mp S.nd).2
  rw [List.map_append, List.nodup_append] at nd
  refine ⟨fun b o e => hx b o (fun q => by subst q; rw [hn] at e; cases e) (S.keep b o e), S.fr.extBut hx (fun q => S.neL hPm q.symm), S.above, fun p hp => ?_, ?_⟩
  · have old : ∀ q ∈ pre ++ bs, q.1 ≠ P → q.2.At h' q.1 ∧ q.2.Apart hb q.1 := fun q hq hne => ⟨(S.has q hq).1.keep fun o e => hx _ o hne e, (S.has q hq).2⟩
    rcases List.mem_append.mp hp with hp | hp
    · exact old p (List.mem_append_left _ hp) fun q => nd.2.2 p.1 (List.mem_map_of_mem hp) P (List.mem_map_of_mem (f := (·.1)) hP) q
    · rcases List.mem_cons.mp hp with rfl | hp
      · exact ⟨hoc, none_of_le (Nat.le_trans S.sz hcd)⟩
      · obtain ⟨q, hq, rfl⟩ := List.mem_map.mp hp
        by_cases hne : q.1 = P
        · rw [if_pos hne]; exact ⟨ho, hn⟩
        · rw [if_neg hne]; exact old q (List.mem_append_right _ hq) hne
  · have h0 : L :: List.map (·.1) (pre ++ (cd, Cel.obj oc) :: Mine.swp P o bs) = L :: (pre.map (·.1) ++ cd :: bs.map (·.1)) := by
      rw [List.map_append, List.map_cons, swp_fst]
    rw [h0]
    have hnew := S.newAddr hcd
    have nd0 := S.nd
    rw [List.map_append] at hnew nd0
    have hp2 : (L :: (pre.map (·.1) ++ cd :: bs.map (·.1))).Perm (cd :: L :: (pre.map (·.1) ++ bs.map (·.1))) :=
      (List.Perm.cons _ List.perm_middle).trans (List.Perm.swap ..)
    exact hp2.nodup_iff.mpr (List.nodup_cons.mpr ⟨hnew, nd0⟩)
theorem bmAt (B : Bs w hb) (S : St hb hp L m own) {P : Addr} {c : Cel} (hP : (P, c) ∈ own) : ∃ mg, hp.Ns mainGlobals mg ∧ hp.BuiltinsAt mg P ∧ mainGlobals ≠ P := by
  obtain ⟨mg, bm, ob, h1, h2, h3, h4, h5, h6⟩ := B.bm
  have hn := (S.has _ hP).2.none
  refine ⟨mg, h1.keeps S.keep, ⟨bm, ob, h2, h3, h4, fun q => ?_, S.keep _ _ h5, h6⟩, fun q => ?_⟩
  · rw [q] at h5; rw [hn] at h5; cases h5
  · obtain ⟨o, _, _, e, _⟩ := h1
    rw [q, hn] at e; cases e
theorem among0 {pos : Pos} : codeAmong pos (#[] : Array Value).toList = none := rfl
theorem among1 {pos : Pos} {c' : Addr} : codeAmong pos (#[rawInt pos.line, rawInt pos.col, .ref c'] : Array Value).toList = some (.ref c') := by
  show (if ((pos.line : Int) == pos.line && (pos.col : Int) == pos.col) = true then _ else _) = _
  rw [if_pos (by simp)]
/-- a nested def: its code made or found -/
theorem mkF {M : Model} {name qual : Str} {params : Arguments} {body : List Stmt} {scope : Scope} {c P : Addr} {pos : Pos} {firstLine : Nat} {clos : List (Str × Addr)} {own2 : List (Addr × Cel) → List (Addr × Cel)} {Q : Value → Shared → Prop}
    (B : Bs w hb) (S : St hb hp L m own) (hW : ∀ bs', Sw bs bs' own (own2 bs')) (T : TabIn P pos.line pos.col qual bs) (C : CodeHd hb c P) (hcl : closureFor scope env = pure clos)
    (h : ∀ bs' f c' oc vs t doc pm ctv h' tk', (bs' = bs ∨ ∃ o, bs' = (c', .obj oc) :: swp P o bs ∧ (P, Cel.obj (tabObj #[])) ∈ bs ∧ o = codeTab pos.line pos.col c') → TabIn P pos.line pos.col qual bs' → (c', Cel.obj oc) ∈ bs' → oc.data = .fields vs → vs[1]? = some (.str qual t) →
      St hb h' L m ((f, .obj (fnMade name qual params body scope clos doc pm c' ctv)) :: own2 bs') → Q (.ref f) ⟨h', g, d, tk', os⟩)
    (hcode : env.code = .ref c := by rfl) (hge : env.globals = mainGlobals := by rfl) :
    wpAny M A (makeFunction name qual params (.stmts body) scope env [] [] [] pos firstLine) Q E ⟨hp, g, d, tk, os⟩ := by
  rcases T with hP | ⟨c', oc, vs, t, hP, hc, hd, hv⟩
  · have hPo := (hW bs).mem hP
    obtain ⟨mg, k1, k2, k3⟩ := bmAt B S hPo
    refine makeFunction_K (mg := mg) hcl hge k1 hcode (C.keeps S.keep) (S.mem hPo) trivial among0 k3 k2 fun c' ctv doc h' tk' hx hge hlt hrec htb => ?_
    obtain ⟨c₂, oc, vs, t, e2, hoc, hd, hv⟩ := hrec
    cases e2
    refine h _ _ c' oc vs t doc _ ctv _ _ (.inr ⟨_, rfl, hP, rfl⟩) (.inr ⟨c', oc, vs, t, .tail _ (swp_self hP), .head _, hd, hv⟩) (.head _) hd hv ((S.swp (hW _) hP hx hge (by simpa using htb) hoc).push _ (Heap.get?_push_size _ rfl))
  · have hPo := (hW bs).mem hP
    obtain ⟨mg, k1, k2, k3⟩ := bmAt B S hPo
    have he : own2 bs = own := by
      obtain ⟨pre, e1, e2⟩ := (hW bs).split
      rw [e1, e2]
    refine makeFunction_hit (mg := mg) hcl hge k1 hcode (C.keeps S.keep) (S.mem hPo) (by exact trivial) among1 k2 fun ctv doc h' tk' hk hsz => ?_
    exact h bs _ c' oc vs t doc _ ctv _ _ (.inl rfl) (.inr ⟨c', oc, vs, t, hP, hc, hd, hv⟩) hc hd hv (by rw [he]; exact (S.ext hk).push _ (Heap.get?_push_size _ rfl))
theorem mkL {M : Model} {name qual : Str} {params : Arguments} {body : Expr} {scope : Scope} {c P : Addr} {pos : Pos} {firstLine : Nat} {clos : List (Str × Addr)} {own2 : List (Addr × Cel) → List (Addr × Cel)} {Q : Value → Shared → Prop}
    (B : Bs w hb) (S : St hb hp L m own) (hW : ∀ bs', Sw bs bs' own (own2 bs')) (T : TabIn P pos.line pos.col qual bs) (C : CodeHd hb c P) (hcl : closureFor scope env = pure clos)
    (h : ∀ bs' f c' oc vs t pm ctv h' tk', (bs' = bs ∨ ∃ o, bs' = (c', .obj oc) :: swp P o bs ∧ (P, Cel.obj (tabObj #[])) ∈ bs ∧ o = codeTab pos.line pos.col c') → TabIn P pos.line pos.col qual bs' → (c', Cel.obj oc) ∈ bs' → oc.data = .fields vs → vs[1]? = some (.str qual t) →
      St hb h' L m ((f, .obj (kla_obj name qual params body scope clos pm c' ctv)) :: own2 bs') → Q (.ref f) ⟨h', g, d, tk', os⟩)
    (hcode : env.code = .ref c := by rfl) (hge : env.globals = mainGlobals := by rfl) :
    wpAny M A (makeFunction name qual params (.expr body) scope env [] [] [] pos firstLine) Q E ⟨hp, g, d, tk, os⟩ := by
  rcases T with hP | ⟨c', oc, vs, t, hP, hc, hd, hv⟩
  · have hPo := (hW bs).mem hP
    obtain ⟨mg, k1, k2, k3⟩ := bmAt B S hPo
    refine kla_makeFunction (mg := mg) hcl hge k1 hcode (C.keeps S.keep) (S.mem hPo) trivial among0 k3 k2 fun c' ctv h' tk' hx hge hlt hrec htb => ?_
    obtain ⟨c₂, oc, vs, t, e2, hoc, hd, hv⟩ := hrec
    cases e2
    refine h _ _ c' oc vs t _ ctv _ _ (.inr ⟨_, rfl, hP, rfl⟩) (.inr ⟨c', oc, vs, t, .tail _ (swp_self hP), .head _, hd, hv⟩) (.head _) hd hv ((S.swp (hW _) hP hx hge (by simpa using htb) hoc).push _ (Heap.get?_push_size _ rfl))
  · have hPo := (hW bs).mem hP
    obtain ⟨mg, k1, k2, k3⟩ := bmAt B S hPo
    have he : own2 bs = own := by
      obtain ⟨pre, e1, e2⟩ := (hW bs).split
      rw [e1, e2]
    refine kla_makeFunctionHit (mg := mg) hcl hge k1 hcode (C.keeps S.keep) (S.mem hPo) (by exact trivial) among1 k2 fun ctv h' tk' hk hsz => ?_
    exact h bs _ c' oc vs t _ ctv _ _ (.inl rfl) (.inr ⟨c', oc, vs, t, hP, hc, hd, hv⟩) hc hd hv (by rw [he]; exact (S.ext hk).push _ (Heap.get?_push_size _ rfl))
end
section
variable {w : World} {hb h h' : Heap} {L : Addr} {m : Str → Option Value} {own own' bs : List (Addr × Cel)} {A : Around} {E : Value → Shared → Prop} {hp : Heap} {g : Array GenState} {d : Drawn} {tk : Nat} {os : OsState} {env : Env}
theorem St.addL (S : St hb h L m own) : ∀ l : List (Addr × Cel), (∀ p ∈ l, p.2.At h p.1 ∧ p.2.Apart hb p.1) → (l.map (·.1)).Nodup → (∀ p ∈ l, p.1 ∉ L :: own.map (·.1)) → St hb h L m (l ++ own)
  | [], _, _, _ => S
  | p :: l, h1, h2, h3 => by
    rw [List.map_cons, List.nodup_cons] at h2
    have S' := S.addL l (fun q hq => h1 q (.tail _ hq)) h2.2 fun q hq => h3 q (.tail _ hq)
    refine S'.add (h1 p (.head _)).1 (h1 p (.head _)).2 fun q => ?_
    rw [List.map_append] at q
    rcases List.mem_cons.mp q with q | q
    · exact h3 p (.head _) (q ▸ .head _)
    · rcases List.mem_append.mp q with q | q
      · exact h2.1 q
      · exact h3 p (.head _) (.tail _ q)
noncomputable def cellsOf (n : Nat) (names : List (Str × NameKind)) (cm : Str → Option Value) : List (Addr × Cel) := (cellsFrom n names []).map fun p => (p.2, Cel.cel (cm p.1))
theorem callKC {R : Result → Shared → Prop} {name qual : Str} {params : Arguments} {body : List Stmt} {scope : Scope} {dV kV doc pm cdv ct oc : Value} {an od : Option Addr} {osl : Array (Option Value)} {f : Addr} {args : Args} {binds : List (Str × Value)}
    (B : Bs w hb) (S : St hb hp L m own) (hl : (KK w.params).lookup f = some ⟨oc, od, .func (fnX name qual params body scope [] dV kV doc pm an cdv ct), osl⟩) (hcd : codeIn (KK w.params) cdv qual = true)
    (hroom : A.depth < recursionLimit) (hbind : BindsTo ⟨hp, g, d, tk, os⟩ (fnX name qual params body scope [] dV kV doc pm an cdv ct) args binds)
    (hkind : (binds.all fun y => scope.names.lookup y.1 == some .local || scope.names.lookup y.1 == some .cell) = true)
    (hnd : ((cellsFrom 0 scope.names []).map (·.1)).Nodup)
    (h : ∀ h₁ L' tk', St hb h₁ L' (bindL (envOfC qual scope L' f cdv).kindOf binds fun _ => none) (cellsOf (L' + 1) scope.names (bindC (envOfC qual scope L' f cdv).kindOf binds fun _ => none) ++ (L, .ns m) :: own) →
      wpAny (model PG w) (A.deeper (envOfC qual scope L' f cdv)) (execs body (envOfC qual scope L' f cdv)) (fun fl s' => R (.ok (.ret (retv fl))) s') NoE ⟨h₁, g, d, tk', os⟩)
    (hco : scope.isCoroutine = false := by rfl) (hgen : scope.isGenerator = false := by rfl) (hk : scope.kind = .function := by rfl) :
    codeAny (model PG w) A (.call (.ref f) args) R ⟨hp, g, d, tk, os⟩ := by
  refine codeAny_call_function hroom (S.keep _ _ (B.X _ _ hl)) rfl hco hgen rfl (codeRec_of (fun a o e => S.keep _ _ (B.X a o e)) hcd) (hbind _ _ _ _ ?_)
  refine wpAny_newFunctionEnv_cells hk (kindsX hkind _) fun env' he s' x => ?_
  subst he
  refine ⟨(B.nolimit.keeps S.keep).keeps x.toInCall.keep, codeAny_func ?_⟩
  obtain ⟨h₁, tk', rfl, hk₁⟩ := x.done
  have S' := S.enter hk₁ (Nat.le_refl _) x.toInCall.ns
  have hnd' : ((cellsFrom (hp.objs.size + 1) scope.names []).map (·.1)).Nodup := cellsFrom_names scope.names 0 (hp.objs.size + 1) [] [] rfl ▸ hnd
  have hab : ∀ p ∈ cellsFrom (hp.objs.size + 1) scope.names [], hp.objs.size < p.2 := fun p hp' => x.above p.1 p.2 hp'
  refine wpAny_mono (h h₁ hp.objs.size tk' (S'.addL _ (fun p hp' => ?_) ?_ fun p hp' => ?_)) (fun _ _ x => x) (fun _ _ x => x.elim)
  · obtain ⟨q, hq, rfl⟩ := List.mem_map.mp hp'
    exact ⟨x.cell q.1 q.2 (lookup_of_mem_nodup hnd' hq), none_of_le (Nat.le_trans S.sz (Nat.le_of_lt (hab q hq)))⟩
  · unfold cellsOf
    rw [List.map_map, List.Nodup, List.pairwise_map]
    exact x.apart
  · obtain ⟨q, hq, rfl⟩ := List.mem_map.mp hp'
    have h1 := hab q hq
    intro hm
    rcases List.mem_cons.mp hm with e | hm
    · exact absurd h1 (by show ¬ _ < q.2; rw [show q.2 = hp.objs.size from e]; exact Nat.lt_irrefl _)
    · rcases List.mem_cons.mp hm with e | hm
      · exact absurd S.ltL (by rw [← (show q.2 = L from e)]; exact Nat.not_lt.mpr (Nat.le_of_lt h1))
      · obtain ⟨r, hr, e⟩ := List.mem_map.mp hm
        exact absurd (S.lt hr) (by rw [(show r.1 = q.2 from e)]; exact Nat.not_lt.mpr (Nat.le_of_lt h1))
/-- a lambda of the ledger's called -/
theorem callE {R : Result → Shared → Prop} {name qual : Str} {params : Arguments} {body : Expr} {scope : Scope} {cl : List (Str × Addr)} {pm ctv : Value} {c' : Addr} {oc : Obj} {vs : Array Value} {t : Tok} {f : Addr} {args : Args} {binds : List (Str × Value)}
    (B : Bs w hb) (S : St hb hp L m own) (ho : (f, Cel.obj (kla_obj name qual params body scope cl pm c' ctv)) ∈ own) (hc : (c', Cel.obj oc) ∈ own) (hd : oc.data = .fields vs) (hv : vs[1]? = some (.str qual t))
    (hroom : A.depth < recursionLimit) (hbind : bindArgs (kla_fn name qual params body scope cl pm (.ref c') ctv) args = pure binds) (hloc : (binds.all fun x => decide (scope.names.lookup x.1 = some .local)) = true)
    (h : ∀ h₁ L' tk', St hb h₁ L' (fun y => binds.reverse.lookup y) ((L, .ns m) :: own) →
      wpAny (model PG w) (A.deeper (envX qual scope L' f (.ref c') cl)) (eval body (envX qual scope L' f (.ref c') cl)) (fun v s' => R (.ok (.ret v)) s') NoE ⟨h₁, g, d, tk', os⟩)
    (hcell : (scope.names.all fun x => decide (x.2 ≠ .cell)) = true := by rfl) (hco : scope.isCoroutine = false := by rfl) (hgen : scope.isGenerator = false := by rfl) (hk : scope.kind = .function := by rfl) :
    codeAny (model PG w) A (.call (.ref f) args) R ⟨hp, g, d, tk, os⟩ := by
  refine kla_callFunE hroom (S.mem ho) rfl hco hgen rfl ⟨c', oc, vs, t, rfl, S.mem hc, hd, hv⟩ ?_
  rw [hbind]
  refine wpAny_pure (wpAny_newFunctionEnv (fun x hx => of_decide_eq_true (List.all_eq_true.mp hcell x hx)) (fun x hx => of_decide_eq_true (List.all_eq_true.mp hloc x hx)) (fun h₁ hns hsb => ⟨((B.nolimit).keeps S.keep).fresh _ hsb, ?_⟩) hk)
  show codeAny _ _ (.expr body (envX qual scope hp.objs.size f (.ref c') cl)) _ _
  have hk₁ : ∀ b o, hp.get? b = some o → h₁.get? b = some o := fun b o e => hsb.extBut b o (Nat.ne_of_lt (Heap.lt_size e)) (Heap.get?_push_of_some _ e)
  exact kla_codeExpr (wpAny_mono (h h₁ hp.objs.size _ (S.enter hk₁ (Nat.le_refl _) hns)) (fun _ _ x => x) (fun _ _ x => x.elim))
/-- a nested def of the ledger's called -/
theorem callN {R : Result → Shared → Prop} {name qual : Str} {params : Arguments} {body : List Stmt} {scope : Scope} {cl : List (Str × Addr)} {doc pm ctv : Value} {c' : Addr} {oc : Obj} {vs : Array Value} {t : Tok} {f : Addr} {args : Args} {binds : List (Str × Value)}
    (B : Bs w hb) (S : St hb hp L m own) (ho : (f, Cel.obj (fnMade name qual params body scope cl doc pm c' ctv)) ∈ own) (hc : (c', Cel.obj oc) ∈ own) (hd : oc.data = .fields vs) (hv : vs[1]? = some (.str qual t))
    (hroom : A.depth < recursionLimit) (hbind : BindsTo ⟨hp, g, d, tk, os⟩ (fnX name qual params body scope cl .none .none doc pm none (.ref c') ctv) args binds) (hloc : (binds.all fun x => decide (scope.names.lookup x.1 = some .local)) = true)
    (h : ∀ h₁ L' tk', St hb h₁ L' (fun y => binds.reverse.lookup y) ((L, .ns m) :: own) →
      wpAny (model PG w) (A.deeper (envX qual scope L' f (.ref c') cl)) (execs body (envX qual scope L' f (.ref c') cl)) (fun fl s' => R (.ok (.ret (retv fl))) s') NoE ⟨h₁, g, d, tk', os⟩)
    (hcell : (scope.names.all fun x => decide (x.2 ≠ .cell)) = true := by rfl) (hco : scope.isCoroutine = false := by rfl) (hgen : scope.isGenerator = false := by rfl) (hk : scope.kind = .function := by rfl) :
    codeAny (model PG w) A (.call (.ref f) args) R ⟨hp, g, d, tk, os⟩ :=
  callF S B.nolimit (S.mem ho) rfl ⟨c', oc, vs, t, rfl, S.mem hc, hd, hv⟩ hroom hbind (fun x hx => of_decide_eq_true (List.all_eq_true.mp hloc x hx)) h
    (fun x hx => of_decide_eq_true (List.all_eq_true.mp hcell x hx)) hco hgen hk
end
section
variable {w : World} {hb : Heap} {L : Addr} {m : Str → Option Value} {own own' : List (Addr × Cel)} {A : Around} {E : Value → Shared → Prop} {hp : Heap} {g : Array GenState} {d : Drawn} {tk : Nat} {os : OsState} {prog : Program} {l : Addr} {vs : List Value} {env : Env}
theorem setL {k : Int} {u : Tok} {v : Value} {Q : Unit → Shared → Prop} (S : St hb hp L m own) (U : Sets l (.lst vs) (.lst (vs.set k.toNat v)) own own') (h0 : 0 ≤ k) (hk : k < vs.length) (hz : vs.length < 1000000) (h : ∀ h', St hb h' L m own' → Q () ⟨h', g, d, tk, os⟩) :
    wpAny (model prog w) A (setItem (.ref l) (.int k u) v) Q E ⟨hp, g, d, tk, os⟩ := by
  obtain ⟨n, e⟩ := S.mem U.old
  exact ki_setAt e h0 (by (first | lia | omega)) (by simpa using hk) (h _ (S.sets U (Heap.SameBut.update ..) (upd_lst e (by simp))))
theorem foldl_rep (x : Value) : ∀ (n : Nat) (acc : Array Value), (List.foldl (fun x1 x2 => x1 ++ x2) acc (List.replicate n #[x])) = acc ++ (List.replicate n x).toArray
  | 0, acc => by simp
  | n + 1, acc => by
    rw [List.replicate_succ, List.foldl_cons, foldl_rep x n, List.replicate_succ]
    apply Array.ext'
    simp
/-- [x] * k -/
theorem mulL {k : Int} {u : Tok} {x : Value} {Q : Value → Shared → Prop} (S : St hb hp L m own) (hl : (l, .lst [x]) ∈ own) (hk : k < 1000000) (h : ∀ h' a, St hb h' L m ((a, .lst (List.replicate k.toNat x)) :: own) → 0 ≤ k ∨ k < 0 → Q (.ref a) ⟨h', g, d, tk, os⟩) (hlo : -(2 ^ 63 : Int) ≤ k) :
    wpAny (model prog w) A (binaryOp .Mult (.ref l) (.int k u)) Q E ⟨hp, g, d, tk, os⟩ := by
  obtain ⟨n, e⟩ := S.mem hl
  obtain ⟨news, N, k1⟩ := S.news
  refine PyProof.Rows.mul_list S.Fr N e hlo (by (first | lia | omega)) (by simp; (first | lia | omega)) fun h' F' N' => ?_
  have S1 := k1 h' [_] F' N'
  refine h _ _ (S1.add (c := .lst (List.replicate k.toNat x)) ⟨0, ?_⟩ (Cel.Apart.of_le S.sz) (S.newAddr (Nat.le_refl _))) (by (first | lia | omega))
  have := (N' _ (.head _)).1
  rw [this]
  simp [foldl_rep]
/-- a + b for lists -/
theorem addL2 {b : Addr} {ws : List Value} {Q : Value → Shared → Prop} (S : St hb hp L m own) (hl : (l, .lst vs) ∈ own) (hb' : (b, .lst ws) ∈ own) (hz : vs.length + ws.length < 1000000) (h : ∀ h' a, St hb h' L m ((a, .lst (vs ++ ws)) :: own) → Q (.ref a) ⟨h', g, d, tk, os⟩) :
    wpAny (model prog w) A (binaryOp .Add (.ref l) (.ref b)) Q E ⟨hp, g, d, tk, os⟩ := by
  obtain ⟨n, e⟩ := S.mem hl
  obtain ⟨n2, e2⟩ := S.mem hb'
  have z : sizeLine = 16777216 := by decide
  exact P.add_list e e2 (h _ _ (S.push _ ⟨0, by rw [Heap.get?_push_size _ rfl]; simp⟩)) (by simp; (first | lia | omega))
noncomputable abbrev Cel.rit (l : Addr) (i : Int) : Cel := .prd fun o => o.cls = .type "list_reverseiterator" ∧ o.data = .fields #[.ref l, rawInt i]
theorem revI {Q : Value → Shared → Prop} (S : St hb hp L m own) (hl : (l, .lst vs) ∈ own) (h : ∀ h' a, St hb h' L m ((a, .rit l ((vs.length : Int) - 1)) :: own) → Q (.ref a) ⟨h', g, d, tk, os⟩) :
    wpAny (model prog w) A (call (.type "reversed") [.ref l]) Q E ⟨hp, g, d, tk, os⟩ :=
  call_reversed_list (lst_isList (S.mem hl)) (h _ _ (S.push _ ⟨_, Heap.get?_push_size _ rfl, rfl, by simp [revObj]⟩))
theorem iterR {I : Addr} {i : Int} {Q : Value → Shared → Prop} {s : Shared} (S : St hb s.heap L m own) (hl : (I, .rit l i) ∈ own) (h : Q (.ref I) s) : wpAny (model prog w) A (pyIter (.ref I)) Q E s :=
  wpAny_pyIter_revIter (S.mem hl) h
theorem nextR {I : Addr} {i : Nat} {v : Value} {Q : Option Value → Shared → Prop} (S : St hb hp L m own) (U : Sets I (.rit l i) (.rit l ((i : Int) - 1)) own own') (hl : (l, .lst vs) ∈ own) (hv : vs[i]? = some v) (h : ∀ h', St hb h' L m own' → Q (some v) ⟨h', g, d, tk, os⟩) :
    wpAny (model prog w) A (pyNext (.ref I)) Q E ⟨hp, g, d, tk, os⟩ :=
  wpAny_pyNext_rev_item (S.mem U.old) (lst_isList (S.mem hl)) (by simpa using hv) fun h' hi hs => h h' (S.sets U hs hi)
theorem endR {I : Addr} {Q : Option Value → Shared → Prop} (hh : A.handled = none) (S : St hb hp L m own) (U : Gone I (.rit l (-1)) own own') (h : ∀ h', St hb h' L m own' → Q none ⟨h', g, d, tk, os⟩) :
    wpAny (model prog w) A (pyNext (.ref I)) Q E ⟨hp, g, d, tk, os⟩ :=
  wpAny_pyNext_rev_end hh (S.mem U.old) fun h' hx => h h' (S.gone U hx)
/-- all stands but at one new address -/
theorem St.extNew {h' : Heap} (S : St hb hp L m own) (hx : Heap.ExtBut hp.objs.size hp h') : St hb h' L m own := S.ext fun b o e => hx b o (Nat.ne_of_lt (Heap.lt_size e)) e
theorem unT2 {a b : Str} {pa pb tp : Pos} {kk : Nat} {T : Addr} {x y : Value} {Q : Unit → Shared → Prop} (hh : A.handled = none) (S : St hb hp env.locals m own) (ht : (T, .obj (tupO [x, y])) ∈ own)
    (h : ∀ h' tk', St hb h' env.locals (fun z => if z = b then some y else if z = a then some x else m z) own → Q () ⟨h', g, d, tk', os⟩)
    (hk : env.scope.kind = .function := by rfl) (ha : env.kindOf a = some .local := by rfl) (hb' : env.kindOf b = some .local := by rfl) :
    wpAny (model prog w) A (assign (.Tuple [.Name a pa, .Name b pb] kk tp) env (.ref T)) Q E ⟨hp, g, d, tk, os⟩ := by
  refine wpAny_assign_Tuple (items := #[x, y]) hh ⟨_, S.mem ht, rfl, 0, rfl⟩ rfl rfl fun h₁ he₁ => ?_
  show wpAny _ _ (assignInOrder [assign (.Name a pa) env, assign (.Name b pb) env] [x, y]) _ _ _
  refine assignInOrder_cons ?_
  refine wpAny_assign_Name (stN (S.extNew he₁) (fun h2 tk2 S2 => ?_) hk ha)
  refine assignInOrder_cons ?_
  refine wpAny_assign_Name (stN S2 (fun h3 tk3 S3 => ?_) hk hb')
  refine assignInOrder_nil ?_
  exact h h3 _ S3
theorem rsh1I {a : Int} {t u : Tok} {Q : Value → Shared → Prop} (h : ∀ t tk', Q (.int (a / 2) t) ⟨hp, g, d, tk', os⟩) : wpAny (model prog w) A (binaryOp .RShift (.int a t) (.int 1 u)) Q E ⟨hp, g, d, tk, os⟩ := rshI (by decide) h
theorem mulSm {a b : Int} (h : a.natAbs < 2 ^ 64) : IntMulOk a b := IntMulOk.of_left (PySem.intBits_le_iff.mpr h)
theorem St.leave1 {L' : Addr} {m' : Str → Option Value} {p : Addr × Cel} (S : St hb hp L' m' (p :: (L, .ns m) :: own)) : St hb hp L m (p :: own) := by
  have h2 := S.has _ (.tail _ (.head _))
  refine ⟨S.keep, h2.1, h2.2, fun q hq => ?_, ?_⟩
  · rcases List.mem_cons.mp hq with rfl | hq
    · exact S.has _ (.head _)
    · exact S.has _ (.tail _ (.tail _ hq))
  · have nd := (List.nodup_cons.mp S.nd).2
    rw [List.map_cons, List.map_cons, List.nodup_cons, List.nodup_cons] at nd
    rw [List.map_cons, List.nodup_cons, List.nodup_cons]
    refine ⟨fun q => ?_, fun q => nd.1 (.tail _ q), nd.2.2⟩
    rcases List.mem_cons.mp q with e | q
    · exact nd.1 (e ▸ .head _)
    · exact nd.2.1 q
theorem St.o3 {p : Addr × Cel} (S : St hb hp L m (p :: (l, .lst vs) :: own)) : ∃ o3 : List Value → List (Addr × Cel), (o3 = fun v => p :: (l, .lst v) :: own) ∧ St hb hp L m (o3 vs) := ⟨_, rfl, S⟩
/-- an int's value -/
noncomputable def ival : Value → Option Int
  | .int k _ => some k
  | _ => none
theorem ival_some {v : Value} {k : Int} (h : ival v = some k) : ∃ t, v = .int k t := by
  cases v with
  | int k' t => cases h; exact ⟨t, rfl⟩
  | _ => cases h
theorem map_ival {vs : List Value} {ks : List Int} (h : vs.map ival = ks.map some) (i : Nat) (k : Int) (hk : ks[i]? = some k) : ∃ t, vs[i]? = some (.int k t) := by
  have := congrArg (fun l => l[i]?) h
  simp only [List.getElem?_map, hk, Option.map_some] at this
  cases q : vs[i]? with
  | none => rw [q] at this; cases this
  | some v =>
    rw [q] at this
    obtain ⟨t, rfl⟩ := ival_some (Option.some.inj this)
    exact ⟨t, rfl⟩
theorem map_ival_len {vs : List Value} {ks : List Int} (h : vs.map ival = ks.map some) : vs.length = ks.length := by
  have := congrArg List.length h
  simpa using this
end
/-- digits, the least first -/
noncomputable def dg (n : Nat) : Nat → Nat → List Nat
  | 0, _ => []
  | k + 1, x => x % 2 ^ n :: dg n k (x / 2 ^ n)
noncomputable def undg (n : Nat) : List Nat → Nat
  | [] => 0
  | x :: r => x + 2 ^ n * undg n r
theorem dg_len (n k x : Nat) : (dg n k x).length = k := by
  induction k generalizing x with
  | zero => rfl
  | succ k ih => simp [dg, ih]
theorem dg_add (n a b x : Nat) : dg n (a + b) x = dg n a (x % 2 ^ (n * a)) ++ dg n b (x / 2 ^ (n * a)) := by
  induction a generalizing x with
  | zero => simp [dg]
  | succ a ih =>
    have e1 : 2 ^ (n * (a + 1)) = 2 ^ n * 2 ^ (n * a) := by rw [Nat.mul_add, Nat.mul_one, Nat.add_comm, Nat.pow_add]
    rw [Nat.add_right_comm, dg, dg, ih, List.cons_append, e1]
    congr 1
    · rw [Nat.mod_mul_right_mod]
    · rw [Nat.mod_mul_right_div_self, Nat.div_div_eq_div_mul]
theorem undg_append (n : Nat) (a b : List Nat) : undg n (a ++ b) = undg n a + 2 ^ (n * a.length) * undg n b := by
  induction a with
  | nil => simp [undg]
  | cons x a ih =>
    rw [List.cons_append, undg, undg, ih, List.length_cons, Nat.mul_add n, Nat.mul_one, Nat.add_comm (n * a.length), Nat.pow_add, Nat.mul_add, Nat.mul_assoc, Nat.add_assoc]
theorem undg_dg (n k x : Nat) (h : x < 2 ^ (n * k)) : undg n (dg n k x) = x := by
  induction k generalizing x with
  | zero => simp at h; simp [dg, undg, h]
  | succ k ih =>
    rw [dg, undg, ih]
    · exact Nat.mod_add_div x (2 ^ n)
    · rw [Nat.mul_add, Nat.mul_one, Nat.add_comm, Nat.pow_add] at h
      exact Nat.div_lt_of_lt_mul h
theorem dg_lt (n k x : Nat) : ∀ y ∈ dg n k x, y < 2 ^ n := by
  induction k generalizing x with
  | zero => intro y h; cases h
  | succ k ih =>
    intro y h
    rcases List.mem_cons.mp h with rfl | h
    · exact Nat.mod_lt _ (Nat.two_pow_pos n)
    · exact ih _ y h
/-- x ^ (x >> k << k) is the lower part -/
theorem xor_low (x k : Nat) : Builtin.bitXor (x : Int) ((x : Int) / 2 ^ k * 2 ^ k) = ((x % 2 ^ k : Nat) : Int) := by
  rw [PyProof.Rows.bitXor_and]
  have e : (x : Int) / 2 ^ k * 2 ^ k = ((x / 2 ^ k * 2 ^ k : Nat) : Int) := by push_cast; rfl
  rw [e]
  have h1 : Builtin.bitAnd (x : Int) ((x / 2 ^ k * 2 ^ k : Nat) : Int) = ((x / 2 ^ k * 2 ^ k : Nat) : Int) := by
    unfold Builtin.bitAnd
    simp only [Int.natCast_nonneg, decide_true, Int.toNat_natCast]
    congr 1
    apply Nat.eq_of_testBit_eq
    intro i
    rw [Nat.testBit_and, Nat.testBit_mul_two_pow]
    by_cases hi : k ≤ i
    · rw [Nat.testBit_div_two_pow]
      have : i - k + k = i := by (first | lia | omega)
      simp [hi, this]
    · simp [hi]
  rw [h1]
  have := Nat.div_add_mod x (2 ^ k)
  have h2 := Nat.mul_comm (2 ^ k) (x / 2 ^ k)
  (first | lia | omega)
structure Tb (bs : List (Addr × Cel)) : Prop where
  i : TabIn 103 83 4 "_int2digits.<locals>.inner" bs
  j : TabIn 110 98 4 "_digits2int.<locals>.inner" bs
  k : TabIn 222 222 60 "_law_quick_hand.<locals>.<lambda>" bs
theorem TabIn.other {P' : Addr} {l' c' : Int} {qual' : Str} {bs bs' : List (Addr × Cel)} {P cd : Addr} {oc : Obj} {x : Obj} (T : TabIn P' l' c' qual' bs) (hn : P' ≠ P) (nd : (bs.map (·.1)).Nodup)
    (hbs : bs' = bs ∨ ∃ o, bs' = (cd, .obj oc) :: Mine.swp P o bs ∧ (P, Cel.obj (tabObj #[])) ∈ bs ∧ o = x) : TabIn P' l' c' qual' bs' := by
  rcases hbs with rfl | ⟨o, rfl, hP, _⟩
  · exact T
  · exact TabIn.swp (l := 0) (c := 0) (qual := "") T hn nd hP
theorem St.ndT {hb h : Heap} {L : Addr} {m : Str → Option Value} {own bs bs' own' : List (Addr × Cel)} (S : St hb h L m own) (W : Sw bs bs' own own') : (bs.map (·.1)).Nodup := by
  obtain ⟨pre, rfl, rfl⟩ := W.split
  have := (List.nodup_cons.mp S.nd).2
  rw [List.map_append] at this
  exact (List.nodup_append.mp this).2.1
theorem int2digits_spec {w : World} {hb : Heap} {L : Addr} {m : Str → Option Value} {own bs : List (Addr × Cel)} {own2 : List (Addr × Cel) → List (Addr × Cel)} {A : Around} {E : Value → Shared → Prop} {hp : Heap} {g : Array GenState} {d : Drawn} {tk : Nat} {os : OsState} {Q : Value → Shared → Prop}
    (B : Bs w hb) (S : St hb hp L m own) (hW : ∀ bs', Sw bs bs' own (own2 bs')) (T : Tb bs) {a n D : Nat} {ta tn : Tok} (hn : 0 < n) (hnb : n < 100000) (hD : (Builtin.Int.intBits (a : Int) + n - 1) / n = D) (hD2 : D ≤ 50) (hr : A.depth + 60 < recursionLimit)
    (hQ : ∀ bs' h' tk' l vs, Tb bs' → St hb h' L m ((l, .lst vs) :: own2 bs') → vs.map ival = (dg n D a).map (fun x => some ((x : Nat) : Int)) → Q (.ref l) ⟨h', g, d, tk', os⟩) :
    wpAny (model PG w) A (PySem.call (.ref 108) [.int a ta, .int n tn]) Q E ⟨hp, g, d, tk, os⟩ := by
  have S0 := S
  have hW0 := hW
  refine wpAny_call ?_
  refine callKC (binds := [("a", .int a ta), ("n", .int n tn)]) B S (by rfl) (by rfl) (by (first | lia | omega)) (.of_eq rfl) (by rfl) (by decide +kernel) (fun h1 L1 tk1 S1 => genR fun RF hRF => ?_)
  have S : St hb h1 L1 (fun y => if y = "a" then some (.int a ta) else none) ((L1 + 1 + 1 + 1, .cel none) :: (L1 + 1 + 1, .cel none) :: (L1 + 1, .cel (some (.int n tn))) :: (L, .ns m) :: own) := S1
  clear S1
  walk_at "ww"
  rw [show ((Builtin.Int.intBits (a : Int) : Nat) : Int) + (n : Int) - 1 = ((Builtin.Int.intBits (a : Int) + n - 1 : Nat) : Int) by (first | lia | omega), ← Int.natCast_ediv, hD]
  walk_at "ww"
  rw [Int.toNat_natCast] at S
  refine mkF B S (fun _ => by walk_at "sw") (by exact T.i) B.code.2.2.2 (by rfl) ?_ (by rfl) (by rfl)
  intro bs' f c' oc ws t doc pm ctv h tk hbs hT hcm hd hv S
  have T' : Tb bs' := ⟨hT, T.j.other (by decide) (S0.ndT (hW bs)) hbs, T.k.other (by decide) (S0.ndT (hW bs)) hbs⟩
  generalize hfo : fnMade _ _ _ _ _ _ _ _ _ _ = fo at S
  obtain ⟨fd, hfd⟩ : ∃ fd, fo.data = .func fd := ⟨_, by rw [← hfo]⟩
  walk_at "w"
  have inner : ∀ (k : Nat) {A' : Around} {E' : Value → Shared → Prop} {hp' : Heap} {tk' : Nat} {Q' : Value → Shared → Prop} {L' : Addr} {m' : Str → Option Value} {x lo hi : Nat} {ws : List Value} {t1 t2 t3 : Tok} {l : Addr} (o3 : List Value → List (Addr × Cel)),
      (∀ v v', Sets l (.lst v) (.lst v') (o3 v) (o3 v')) → (∀ v, (f, Cel.obj fo) ∈ o3 v ∧ (c', Cel.obj oc) ∈ o3 v ∧ (L1 + 1 + 1, Cel.cel (some (.ref l))) ∈ o3 v ∧ (L1 + 1, Cel.cel (some (.int n tn))) ∈ o3 v ∧ (L1 + 1 + 1 + 1, Cel.cel (some (.ref f))) ∈ o3 v) →
      St hb hp' L' m' (o3 ws) → lo + k + 1 = hi → hi ≤ ws.length → ws.length ≤ 50 → x < 2 ^ (n * (k + 1)) → A'.depth + k + 1 < recursionLimit →
      (∀ h' tk' ws', St hb h' L' m' (o3 ws') → ws'.map ival = (ws.map ival).take lo ++ (dg n (k + 1) x).map (fun y => some ((y : Nat) : Int)) ++ (ws.map ival).drop hi → Q' .none ⟨h', g, d, tk', os⟩) →
      wpAny (model PG w) A' (PySem.call (.ref f) [.int x t1, .int lo t2, .int hi t3]) Q' E' ⟨hp', g, d, tk', os⟩ := by
    clear hD hD2 hr hQ
    intro k
    induction k using Nat.strongRecOn with
    | ind k ih =>
      intro A' E' hp' tk' Q' L' m' x lo hi ws t1 t2 t3 l o3 hU hm S hk hhi hz hx hr hQ'
      obtain ⟨q1, q2, q3, q4, q5⟩ := hm ws
      have q1' := q1
      rw [← hfo] at q1'
      refine wpAny_call ?_
      refine callN (binds := [("x", .int x t1), ("L", .int lo t2), ("R", .int hi t3)]) B S q1' q2 hd hv (by (first | lia | omega)) (.of_eq rfl) (by rfl) (fun h1 L1 tk1 S1 => genR fun RF hRF => ?_)
      clear S
      walk_at "ww"
      refine if_s (fun hc => ?_) (fun hc => ?_)
      · have hc : (lo : Int) + 1 = hi := by simpa using hc
        walk_at "ww"
        refine setL (by assumption) (Sets.tail (hU ws _)) (by (first | lia | omega)) (by (first | lia | omega)) (by (first | lia | omega)) ?_
        intro h S
        walk_at "ww"
        refine hQ' _ _ _ S.leave ?_
        have hk0 : k = 0 := by (first | lia | omega)
        subst hk0
        have hx0 : x % 2 ^ n = x := Nat.mod_eq_of_lt (by simpa using hx)
        rw [List.map_set, Int.toNat_natCast]
        simp only [dg, hx0, List.map_cons, List.map_nil, ival]
        rw [List.set_eq_take_append_cons_drop, if_pos (by rw [List.length_map]; (first | lia | omega)), show lo + 1 = hi by (first | lia | omega)]
        simp
      · have hc : ¬ ((lo : Int) + 1 = hi) := by simpa using hc
        walk_at "ww"
        refine genG fun G hG => ?_
        obtain ⟨mid, hmid⟩ : ∃ mid : Nat, mid = (lo + hi) / 2 := ⟨_, rfl⟩
        obtain ⟨j, hj⟩ : ∃ j : Nat, j = mid - lo := ⟨_, rfl⟩
        have e0 : ((lo : Int) + hi) / 2 = (mid : Int) := by (first | lia | omega)
        have e1 : (mid : Int) - lo = (j : Int) := by (first | lia | omega)
        have hm1 : lo < mid := by (first | lia | omega)
        have hm2 : mid < hi := by (first | lia | omega)
        have hj1 : lo + j = mid := by (first | lia | omega)
        obtain ⟨k2, hk2⟩ : ∃ k2, k2 + j = k := ⟨k - j, by (first | lia | omega)⟩
        obtain ⟨j1, hj2⟩ : ∃ j1, j1 + 1 = j := ⟨j - 1, by (first | lia | omega)⟩
        refine hG ?_
        clear hG G
        simp only [e0] at S
        rw [e0, e1]
        clear e0 e1 hmid hj hc
        refine mulI (mulSm (by (first | lia | omega))) ?_
        intro t tk
        rw [← Int.natCast_mul]
        walk_at "ww"
        refine rshI (Int.natCast_nonneg _) ?_
        intro t tk
        rw [Int.toNat_natCast]
        have hkn : n * (k + 1) ≤ 5000000 := Nat.le_trans (Nat.mul_le_mul (Nat.le_of_lt hnb) (show k + 1 ≤ 50 by (first | lia | omega))) (by decide)
        have hjn : j * n ≤ 5000000 := Nat.le_trans (Nat.mul_le_mul (show j ≤ 50 by (first | lia | omega)) (Nat.le_of_lt hnb)) (by decide)
        walk_at "ww"
        refine lshI (Int.natCast_nonneg _) ?_ ?_
        · have h1 : Builtin.Int.intBits ((x : Int) / 2 ^ (j * n)) ≤ n * (k + 1) := by
            rw [PySem.intBits_le_iff]
            have e : (x : Int) / 2 ^ (j * n) = ((x / 2 ^ (j * n) : Nat) : Int) := by push_cast; rfl
            rw [e, Int.natAbs_natCast]
            exact Nat.lt_of_le_of_lt (Nat.div_le_self _ _) hx
          have h2 : (2 : Int) ^ 27 = 134217728 := by decide
          rw [h2]
          (first | lia | omega)
        intro t tk
        rw [Int.toNat_natCast]
        walk_at "ww"
        rw [xor_low]
        have hlen : ∀ {a b c : List (Option Int)} {v : List Value}, v.map ival = a ++ b ++ c → v.length = a.length + b.length + c.length := by
          intro a b c v e
          have := congrArg List.length e
          simp only [List.length_map, List.length_append] at this
          (first | lia | omega)
        refine ih (j1) (by (first | lia | omega)) (fun v => (L', Cel.ns m') :: o3 v) (fun v v' => Sets.tail (hU v v')) (fun v => ⟨.tail _ (hm v).1, .tail _ (hm v).2.1, .tail _ (hm v).2.2.1, .tail _ (hm v).2.2.2.1, .tail _ (hm v).2.2.2.2⟩) S (by (first | lia | omega)) (by (first | lia | omega)) hz ?_ (by show A'.depth + 1 + (j1) + 1 < _; (first | lia | omega)) ?_
        · rw [show n * (j1 + 1) = j * n by rw [Nat.mul_comm, show j1 + 1 = j by (first | lia | omega)]]
          exact Nat.mod_lt _ (Nat.two_pow_pos _)
        intro h tk ws1 S hw1
        have hl1 := hlen hw1
        rw [List.length_take, List.length_map, List.length_map, dg_len, List.length_drop, List.length_map] at hl1
        obtain ⟨q1, q2, q3, q4, q5⟩ := hm ws1
        walk_at "ww"
        have ex : (x : Int) / 2 ^ (j * n) = ((x / 2 ^ (j * n) : Nat) : Int) := by push_cast; rfl
        rw [ex]
        refine ih (k2) (by (first | lia | omega)) (fun v => (L', Cel.ns m') :: o3 v) (fun v v' => Sets.tail (hU v v')) (fun v => ⟨.tail _ (hm v).1, .tail _ (hm v).2.1, .tail _ (hm v).2.2.1, .tail _ (hm v).2.2.2.1, .tail _ (hm v).2.2.2.2⟩) S (by (first | lia | omega)) (by (first | lia | omega)) (by (first | lia | omega)) ?_ (by show A'.depth + 1 + (k2) + 1 < _; (first | lia | omega)) ?_
        · refine Nat.div_lt_of_lt_mul ?_
          rw [← Nat.pow_add, show j * n + n * (k2 + 1) = n * (k + 1) by rw [Nat.mul_comm j n, ← Nat.mul_add, show j + (k2 + 1) = k + 1 by (first | lia | omega)]]
          exact hx
        intro h tk ws2 S hw2
        walk_at "ww"
        refine hQ' _ _ _ S.leave ?_
        rw [show j1 + 1 = j by (first | lia | omega)] at hw1
        rw [hw2, hw1]
        have e2 : dg n (k + 1) x = dg n j (x % 2 ^ (j * n)) ++ dg n (k2 + 1) (x / 2 ^ (j * n)) := by
          rw [Nat.mul_comm j n, ← dg_add, show j + (k2 + 1) = k + 1 by (first | lia | omega)]
        rw [e2, List.map_append]
        have hA : ((ws.map ival).take lo).length = lo := by rw [List.length_take, List.length_map]; (first | lia | omega)
        have hB : ((dg n j (x % 2 ^ (j * n))).map (fun y => some ((y : Nat) : Int))).length = j := by rw [List.length_map, dg_len]
        rw [List.take_append_of_le_length (by rw [List.length_append, hA, hB]; (first | lia | omega)), List.take_of_length_le (by rw [List.length_append, hA, hB]; (first | lia | omega))]
        rw [List.drop_append, List.drop_of_length_le (by rw [List.length_append, hA, hB]; (first | lia | omega)), List.nil_append, List.drop_drop, List.length_append, hA, hB]
        rw [show mid + (hi - (lo + j)) = hi by (first | lia | omega)]
        simp only [List.append_assoc]
  walk_at "ww"
  have hax : a < 2 ^ (n * D) := by
    have h1 : Builtin.Int.intBits (a : Int) ≤ n * D := by
      rw [← hD]
      have := Nat.div_add_mod (Builtin.Int.intBits (a : Int) + n - 1) n
      have h2 := Nat.mod_lt (Builtin.Int.intBits (a : Int) + n - 1) hn
      (first | lia | omega)
    have := PySem.intBits_le_iff.mp h1
    simpa using this
  refine if_s (fun hc => ?_) (fun hc => ?_)
  · have hc : a ≠ 0 := by simpa using hc
    have hDp : 0 < D := by
      rcases Nat.eq_zero_or_pos D with e | e
      · rw [e] at hax; simp at hax; (first | lia | omega)
      · exact e
    walk_at "ww"
    rw [List.length_replicate]
    obtain ⟨o3, ho3, S⟩ := S.o3
    refine inner (D - 1) o3 (fun v v' => by rw [ho3]; exact Sets.tail Sets.head) (fun v => by rw [ho3]; exact ⟨by walk_at "mem", .tail _ (.tail _ (.tail _ (.tail _ (.tail _ (.tail _ (.tail _ ((hW0 bs').mem' hcm))))))), by walk_at "mem", by walk_at "mem", by walk_at "mem"⟩) S (lo := 0) (by (first | lia | omega)) (by simp) (by simpa using hD2) (by rw [show D - 1 + 1 = D by (first | lia | omega)]; exact hax) (by show A.depth + 1 + (D - 1) + 1 < _; (first | lia | omega)) ?_
    intro h tk ws' S hw'
    rw [ho3] at S
    walk_at "ww"
    refine hQ bs' _ _ l ws' T' (St.leave1 (S.sub (by walk_at "sl"))) ?_
    rw [hw', show D - 1 + 1 = D by (first | lia | omega)]
    simp
  · have hc : a = 0 := by simpa using hc
    walk_at "ww"
    refine hQ bs' _ _ l _ T' (St.leave1 (S.sub (by walk_at "sl"))) ?_
    have hD0 : D = 0 := by
      rw [← hD, hc]
      exact Nat.div_eq_of_lt (by show 0 + n - 1 < n; (first | lia | omega))
    rw [hD0]
    rfl
theorem undg_lt (n : Nat) (l : List Nat) (h : ∀ y ∈ l, y < 2 ^ n) : undg n l < 2 ^ (n * l.length) := by
  induction l with
  | nil => simp [undg]
  | cons x l ih =>
    rw [undg, List.length_cons, Nat.mul_add, Nat.mul_one, Nat.add_comm, Nat.pow_add]
    have h1 := ih fun y hy => h y (.tail _ hy)
    have h2 := h x (.head _)
    have h3 : undg n l + 1 ≤ 2 ^ (n * l.length) := h1
    have h4 := Nat.mul_le_mul_left (2 ^ n) h3
    rw [Nat.mul_comm (2 ^ (n * l.length))]
    rw [Nat.mul_add, Nat.mul_one] at h4
    (first | lia | omega)
theorem digits2int_spec {w : World} {hb : Heap} {L : Addr} {m : Str → Option Value} {own bs : List (Addr × Cel)} {own2 : List (Addr × Cel) → List (Addr × Cel)} {A : Around} {E : Value → Shared → Prop} {hp : Heap} {g : Array GenState} {d : Drawn} {tk : Nat} {os : OsState} {Q : Value → Shared → Prop}
    (B : Bs w hb) (S : St hb hp L m own) (hW : ∀ bs', Sw bs bs' own (own2 bs')) (T : Tb bs) {n : Nat} {tn : Tok} {l : Addr} {vs : List Value} {ds : List Nat} (hl : ∀ bs', (l, Cel.lst vs) ∈ own2 bs') (hv : vs.map ival = ds.map fun x => some ((x : Nat) : Int)) (hds : ∀ y ∈ ds, y < 2 ^ n)
    (hn : 0 < n) (hnb : n < 100000) (hD2 : ds.length ≤ 50) (hr : A.depth + 60 < recursionLimit)
    (hQ : ∀ bs' h' tk' t', Tb bs' → St hb h' L m (own2 bs') → Q (.int (undg n ds : Nat) t') ⟨h', g, d, tk', os⟩) :
    wpAny (model PG w) A (PySem.call (.ref 115) [.ref l, .int n tn]) Q E ⟨hp, g, d, tk, os⟩ := by
  have S0 := S
  have hW0 := hW
  have hvl : vs.length = ds.length := by simpa using congrArg List.length hv
  refine wpAny_call ?_
  refine callKC (binds := [("digits", .ref l), ("n", .int n tn)]) B S (by rfl) (by rfl) (by (first | lia | omega)) (.of_eq rfl) (by rfl) (by decide +kernel) (fun h1 L1 tk1 S1 => genR fun RF hRF => ?_)
  have S : St hb h1 L1 (fun y => none) ((L1 + 1 + 1 + 1, .cel none) :: (L1 + 1 + 1, .cel (some (.int n tn))) :: (L1 + 1, .cel (some (.ref l))) :: (L, .ns m) :: own) := S1
  clear S1
  walk_at "ww"
  refine mkF B S (fun _ => by walk_at "sw") (by exact T.j) B.code.2.2.1 (by rfl) ?_ (by rfl) (by rfl)
  intro bs' f c' oc ws t doc pm ctv h tk hbs hT hcm hd hvv S
  have T' : Tb bs' := ⟨T.i.other (by decide) (S0.ndT (hW bs)) hbs, hT, T.k.other (by decide) (S0.ndT (hW bs)) hbs⟩
  generalize hfo : fnMade _ _ _ _ _ _ _ _ _ _ = fo at S
  obtain ⟨fd, hfd⟩ : ∃ fd, fo.data = .func fd := ⟨_, by rw [← hfo]⟩
  walk_at "w"
  have inner : ∀ (k : Nat) {A' : Around} {E' : Value → Shared → Prop} {hp' : Heap} {tk' : Nat} {Q' : Value → Shared → Prop} {L' : Addr} {m' : Str → Option Value} {lo hi : Nat} {t2 t3 : Tok} {o3 : List (Addr × Cel)},
      (f, Cel.obj fo) ∈ o3 → (c', Cel.obj oc) ∈ o3 → (L1 + 1, Cel.cel (some (.ref l))) ∈ o3 → (L1 + 1 + 1, Cel.cel (some (.int n tn))) ∈ o3 → (L1 + 1 + 1 + 1, Cel.cel (some (.ref f))) ∈ o3 → (l, Cel.lst vs) ∈ o3 →
      St hb hp' L' m' o3 → lo + k + 1 = hi → hi ≤ ds.length → A'.depth + k + 1 < recursionLimit →
      (∀ h' tk' t', St hb h' L' m' o3 → Q' (.int (undg n ((ds.drop lo).take (k + 1)) : Nat) t') ⟨h', g, d, tk', os⟩) →
      wpAny (model PG w) A' (PySem.call (.ref f) [.int lo t2, .int hi t3]) Q' E' ⟨hp', g, d, tk', os⟩ := by
    clear hr hQ
    intro k
    induction k using Nat.strongRecOn with
    | ind k ih =>
      intro A' E' hp' tk' Q' L' m' lo hi t2 t3 o3 q1 q2 q3 q4 q5 q6 S hk hhi hr hQ'
      have q1' := q1
      rw [← hfo] at q1'
      refine wpAny_call ?_
      refine callN (binds := [("L", .int lo t2), ("R", .int hi t3)]) B S q1' q2 hd hvv (by (first | lia | omega)) (.of_eq rfl) (by rfl) (fun h1 L1 tk1 S1 => genR fun RF hRF => ?_)
      clear S
      walk_at "ww"
      refine if_s (fun hc => ?_) (fun hc => ?_)
      · have hc : (lo : Int) + 1 = hi := by simpa using hc
        walk_at "ww"
        have hk0 : k = 0 := by (first | lia | omega)
        subst hk0
        have hlt : lo < ds.length := by (first | lia | omega)
        have hx : ∃ t, vs[lo]? = some (.int (ds[lo] : Nat) t) := by
          refine map_ival (ks := ds.map fun x => ((x : Nat) : Int)) (by rw [hv, List.map_map]; rfl) lo _ ?_
          simp [hlt]
        obtain ⟨t, hx⟩ := hx
        refine subL S1 (.tail _ q6) (by (first | lia | omega)) (by (first | lia | omega)) (by rw [Int.toNat_natCast]; exact hx) ?_
        walk_at "ww"
        have e : undg n ((ds.drop lo).take (0 + 1)) = ds[lo] := by
          rw [List.drop_eq_getElem_cons hlt, List.take_succ_cons, List.take_zero, undg, undg]
          rfl
        rw [e] at hQ'
        exact hQ' _ _ _ S1.leave
      · have hc : ¬ ((lo : Int) + 1 = hi) := by simpa using hc
        walk_at "ww"
        refine genG fun G hG => ?_
        obtain ⟨mid, hmid⟩ : ∃ mid : Nat, mid = (lo + hi) / 2 := ⟨_, rfl⟩
        obtain ⟨j, hj⟩ : ∃ j : Nat, j = mid - lo := ⟨_, rfl⟩
        have e0 : ((lo : Int) + hi) / 2 = (mid : Int) := by (first | lia | omega)
        have e1 : (mid : Int) - lo = (j : Int) := by (first | lia | omega)
        have hm1 : lo < mid := by (first | lia | omega)
        have hm2 : mid < hi := by (first | lia | omega)
        have hj1 : lo + j = mid := by (first | lia | omega)
        obtain ⟨k2, hk2⟩ : ∃ k2, k2 + j = k := ⟨k - j, by (first | lia | omega)⟩
        obtain ⟨j1, hj2⟩ : ∃ j1, j1 + 1 = j := ⟨j - 1, by (first | lia | omega)⟩
        refine hG ?_
        clear hG G
        simp only [e0] at S
        rw [e0, e1]
        clear e0 e1 hmid hj hc
        refine mulI (mulSm (by (first | lia | omega))) ?_
        intro t tk
        rw [← Int.natCast_mul]
        have hjn : j * n ≤ 5000000 := Nat.le_trans (Nat.mul_le_mul (show j ≤ 50 by (first | lia | omega)) (Nat.le_of_lt hnb)) (by decide)
        walk_at "ww"
        refine ih (k2) (by (first | lia | omega)) (.tail _ q1) (.tail _ q2) (.tail _ q3) (.tail _ q4) (.tail _ q5) (.tail _ q6) S (by (first | lia | omega)) (by (first | lia | omega)) (by show A'.depth + 1 + (k2) + 1 < _; (first | lia | omega)) ?_
        intro h tk t S
        walk_at "ww"
        refine lshI (Int.natCast_nonneg _) ?_ ?_
        · have h1 : Builtin.Int.intBits ((undg n ((ds.drop mid).take (k2 + 1)) : Nat) : Int) ≤ n * (k2 + 1) := by
            rw [PySem.intBits_le_iff, Int.natAbs_natCast]
            have := undg_lt n ((ds.drop mid).take (k2 + 1)) fun y hy => hds y (List.mem_of_mem_drop (List.mem_of_mem_take hy))
            rw [List.length_take, List.length_drop, Nat.min_eq_left (by (first | lia | omega))] at this
            exact this
          have hkn : n * (k2 + 1) ≤ 5000000 := Nat.le_trans (Nat.mul_le_mul (Nat.le_of_lt hnb) (show k2 + 1 ≤ 50 by (first | lia | omega))) (by decide)
          have h2 : (2 : Int) ^ 27 = 134217728 := by decide
          rw [h2]
          (first | lia | omega)
        intro t tk
        rw [Int.toNat_natCast]
        walk_at "ww"
        refine ih (j1) (by (first | lia | omega)) (.tail _ q1) (.tail _ q2) (.tail _ q3) (.tail _ q4) (.tail _ q5) (.tail _ q6) S (by (first | lia | omega)) (by (first | lia | omega)) (by show A'.depth + 1 + (j1) + 1 < _; (first | lia | omega)) ?_
        intro h tk t S
        walk_at "ww"
        have e : (undg n ((ds.drop mid).take (k2 + 1)) : Int) * 2 ^ (j * n) + (undg n ((ds.drop lo).take (j1 + 1)) : Int) = ((undg n ((ds.drop lo).take (k + 1)) : Nat) : Int) := by
          have e3 : (ds.drop lo).take (k + 1) = (ds.drop lo).take j ++ (ds.drop mid).take (k2 + 1) := by
            rw [show ds.drop mid = (ds.drop lo).drop j by rw [List.drop_drop]; congr 1; (first | lia | omega), show k + 1 = j + (k2 + 1) by (first | lia | omega), List.take_add]
          rw [e3, undg_append, List.length_take, List.length_drop, Nat.min_eq_left (by (first | lia | omega)), show j1 + 1 = j by (first | lia | omega), Nat.mul_comm n j]
          push_cast
          rw [Int.mul_comm, Int.add_comm]
        rw [e]
        exact hQ' _ _ _ S.leave
  have hl' := hl bs'
  walk_at "ww"
  refine if_s (fun hc => ?_) (fun hc => ?_)
  · have hp0 : 0 < ds.length := by
      cases ds with
      | nil => rw [List.length_eq_zero_iff.mp hvl] at hc; cases hc
      | cons => simp
    walk_at "ww"
    rw [hvl]
    refine inner (ds.length - 1) (by walk_at "mem") (.tail _ (.tail _ (.tail _ (.tail _ (.tail _ ((hW0 bs').mem' hcm)))))) (by walk_at "mem") (by walk_at "mem") (by walk_at "mem") (by walk_at "mem") S (lo := 0) (by (first | lia | omega)) (by (first | lia | omega)) (by show A.depth + 1 + (ds.length - 1) + 1 < _; (first | lia | omega)) ?_
    intro h tk t S
    walk_at "ww"
    have e : (ds.drop 0).take (ds.length - 1 + 1) = ds := by
      rw [List.drop_zero, show ds.length - 1 + 1 = ds.length by (first | lia | omega), List.take_length]
    rw [e]
    exact hQ _ _ _ _ T' (St.leave (S.sub (by walk_at "sl")))
  · have hp0 : ds = [] := by
      cases ds with
      | nil => rfl
      | cons => exact absurd (by cases vs with
          | nil => cases hvl
          | cons => rfl) hc
    walk_at "ww"
    subst hp0
    exact hQ _ _ _ _ T' (St.leave (S.sub (by walk_at "sl")))
theorem Sw.re {bs own : List (Addr × Cel)} {own2 : List (Addr × Cel) → List (Addr × Cel)} (hW : ∀ bs', Sw bs bs' own (own2 bs')) (b b' : List (Addr × Cel)) : Sw b b' (own2 b) (own2 b') := by
  obtain ⟨p1, e1, f1⟩ := (hW b).split
  obtain ⟨p2, e2, f2⟩ := (hW b').split
  have : p1 = p2 := List.append_cancel_right (e1.symm.trans e2)
  subst this
  rw [f1, f2]
  clear e1 e2 f1 f2
  induction p1 with
  | nil => exact .here
  | cons x p ih => exact .there ih
theorem forR_inv {w : World} {hb : Heap} {A : Around} {env : Env} {R : Result → Shared → Prop} {g : Array GenState} {d : Drawn} {os : OsState} {x : Str} {px : Pos} {body : List Stmt} {l : Addr} {vs : List Value} (P : Nat → (Str → Option Value) → List (Addr × Cel) → Prop)
    (hP : ∀ i m own, P i m own → (l, .lst vs) ∈ own) (hA : A.handled = none)
    (turn : ∀ (i : Nat) v h tk m own J (RL : Flow → Shared → Prop), (∀ f s₃, (match f with
            | .next | .cont => ∃ h' tk' m' own', s₃ = ⟨h', g, d, tk', os⟩ ∧ St hb h' env.locals m' ((J, .rit l ((i : Int) - 1)) :: own') ∧ P i m' own'
            | .brk => R (.ok .next) s₃
            | .ret v => R (.ok (.ret v)) s₃) → RL f s₃) → vs[i]? = some v → P (i + 1) m own → St hb h env.locals (fun y => if y = x then some v else m y) ((J, .rit l ((i : Int) - 1)) :: own) →
      wpAny (model PG w) A (execs body env) RL NoE ⟨h, g, d, tk, os⟩)
    (fin : ∀ h tk m own, St hb h env.locals m own → P 0 m own → R (.ok .next) ⟨h, g, d, tk, os⟩)
    {i : Nat} {h : Heap} {tk : Nat} {m : Str → Option Value} {own : List (Addr × Cel)} {J : Addr} (S : St hb h env.locals m ((J, .rit l ((i : Int) - 1)) :: own)) (h0 : P i m own) (hi : i ≤ vs.length)
    (hk : env.scope.kind = .function := by rfl) (hl : env.kindOf x = some .local := by rfl) : codeAny (model PG w) A (.forLoop (.Name x px) (.ref J) body [] env) R ⟨h, g, d, tk, os⟩ := by
  induction i generalizing h tk m own with
  | zero =>
    refine for1 (endR hA S Gone.head fun h' S' => ?_)
    exact wpAny_execs_nil (fin _ _ _ _ S' h0)
  | succ n ih =>
    have e : ((n + 1 : Nat) : Int) - 1 = (n : Int) := by (first | lia | omega)
    rw [e] at S
    refine for1 (nextR S .head (.tail _ (hP _ _ _ h0)) (List.getElem?_eq_getElem (show n < vs.length by (first | lia | omega))) fun h' S' => ?_)
    refine wpAny_assign_Name (stN S' (fun h2 tk2 S2 => ?_) hk hl)
    refine wpAny_mono (turn n _ h2 tk2 m own J _ (fun _ _ x => x) (List.getElem?_eq_getElem (show n < vs.length by (first | lia | omega))) h0 S2) (fun f s₃ h₃ => ?_) fun _ _ x => x
    cases f with
    | next => obtain ⟨h', tk', m', own', rfl, S3, hp⟩ := h₃; exact ih S3 hp (by (first | lia | omega))
    | cont => obtain ⟨h', tk', m', own', rfl, S3, hp⟩ := h₃; exact ih S3 hp (by (first | lia | omega))
    | brk => exact h₃
    | ret v => exact h₃
theorem div2n1n_spec {w : World} {hb : Heap} {L : Addr} {m : Str → Option Value} {own : List (Addr × Cel)} {A : Around} {E : Value → Shared → Prop} {hp : Heap} {g : Array GenState} {d : Drawn} {tk : Nat} {os : OsState} {Q : Value → Shared → Prop}
    (B : Bs w hb) (S : St hb hp L m own) {a b n : Nat} {ta tb tn : Tok} (hb0 : 0 < b) (hs : Builtin.Int.intBits (b : Int) ≤ 5000) (ha : Builtin.Int.intBits (a : Int) ≤ n + 4000) (hr : A.depth + 10 < recursionLimit)
    (hQ : ∀ h' tk' a' t1 t2, St hb h' L m ((a', .obj (tupO [.int (a / b : Nat) t1, .int (a % b : Nat) t2])) :: own) → Q (.ref a') ⟨h', g, d, tk', os⟩) :
    wpAny (model PG w) A (PySem.call (.ref 94) [.int a ta, .int b tb, .int n tn]) Q E ⟨hp, g, d, tk, os⟩ := by
  refine wpAny_call ?_
  refine callK (binds := [("a", .int a ta), ("b", .int b tb), ("n", .int n tn)]) B S (by rfl) (by rfl) (by (first | lia | omega)) (.of_eq rfl) (by rfl) (fun h1 L1 tk1 S => genR fun RF hRF => ?_)
  walk_at "ww"
  refine divmodI S (by (first | lia | omega)) ?_ ?_
  · rw [Int.natAbs_natCast]
    have := PySem.intBits_le_iff.mp hs
    rw [Int.natAbs_natCast] at this
    exact Nat.lt_of_lt_of_le ((Nat.log2_lt (by (first | lia | omega))).mpr this) (by decide)
  intro h tk l t1 t2 S
  walk_at "ww"
  exact hQ _ _ _ _ _ S.leave1
theorem dg_get (n k x i : Nat) (h : i < k) : (dg n k x)[i]? = some (x / 2 ^ (n * i) % 2 ^ n) := by
  induction i generalizing k x with
  | zero =>
    cases k with
    | zero => (first | lia | omega)
    | succ k => simp [dg]
  | succ i ih =>
    cases k with
    | zero => (first | lia | omega)
    | succ k =>
      rw [dg, List.getElem?_cons_succ, ih k (x / 2 ^ n) (by (first | lia | omega)), Nat.div_div_eq_div_mul, ← Nat.pow_add, Nat.mul_add, Nat.mul_one, Nat.add_comm n]
/-- one turn of the long division -/
theorem long_step (n b P p : Nat) (hb : 0 < b) (hp : p < 2 ^ n) : (P * 2 ^ n + p) / b = P / b * 2 ^ n + (P % b * 2 ^ n + p) / b ∧ (P * 2 ^ n + p) % b = (P % b * 2 ^ n + p) % b ∧ (P % b * 2 ^ n + p) / b < 2 ^ n := by
  have e : P * 2 ^ n + p = b * (P / b * 2 ^ n) + (P % b * 2 ^ n + p) := by
    have h1 : P * 2 ^ n = (b * (P / b) + P % b) * 2 ^ n := by rw [Nat.div_add_mod]
    rw [h1, Nat.add_mul, Nat.mul_assoc, Nat.add_assoc]
  refine ⟨?_, ?_, ?_⟩
  · rw [e, Nat.mul_add_div hb]
  · rw [e, Nat.mul_add_mod]
  · rw [Nat.div_lt_iff_lt_mul hb]
    have h1 : P % b + 1 ≤ b := Nat.mod_lt _ hb
    have h2 := Nat.mul_le_mul_right (2 ^ n) h1
    rw [Nat.add_mul, Nat.one_mul] at h2
    rw [Nat.mul_comm (2 ^ n)]
    (first | lia | omega)
theorem divmod_pos_spec {w : World} {hb : Heap} {L : Addr} {m : Str → Option Value} {own bs : List (Addr × Cel)} {own2 : List (Addr × Cel) → List (Addr × Cel)} {A : Around} {E : Value → Shared → Prop} {hp : Heap} {g : Array GenState} {d : Drawn} {tk : Nat} {os : OsState} {Q : Value → Shared → Prop}
    (B : Bs w hb) (S : St hb hp L m own) (hW : ∀ bs', Sw bs bs' own (own2 bs')) (T : Tb bs) {a b : Nat} {ta tb : Tok} (hb0 : 0 < b) (hs : Builtin.Int.intBits (b : Int) ≤ 5000) (ha : Builtin.Int.intBits (a : Int) ≤ Builtin.Int.intBits (b : Int) + 40) (hr : A.depth + 70 < recursionLimit) (hA : A.handled = none)
    (hQ : ∀ bs' h' tk' a' t1 t2, Tb bs' → St hb h' L m ((a', .obj (tupO [.int (a / b : Nat) t1, .int (a % b : Nat) t2])) :: own2 bs') → Q (.ref a') ⟨h', g, d, tk', os⟩) :
    wpAny (model PG w) A (PySem.call (.ref 122) [.int a ta, .int b tb]) Q E ⟨hp, g, d, tk, os⟩ := by
  have S0 := S
  have hW0 := hW
  refine wpAny_call ?_
  refine callK (binds := [("a", .int a ta), ("b", .int b tb)]) B S (by rfl) (by rfl) (by (first | lia | omega)) (.of_eq rfl) (by rfl) (fun h1 L1 tk1 S => genR fun RF hRF => ?_)
  obtain ⟨n, hn⟩ : ∃ n, n = Builtin.Int.intBits (b : Int) := ⟨_, rfl⟩
  rw [← hn] at ha hs
  have hn0 : 0 < n := by
    rcases Nat.eq_zero_or_pos n with e | e
    · have := PySem.intBits_le_iff.mp (show Builtin.Int.intBits (b : Int) ≤ 0 by (first | lia | omega))
      simp at this; (first | lia | omega)
    · exact e
  obtain ⟨D, hD⟩ : ∃ D, D = (Builtin.Int.intBits (a : Int) + n - 1) / n := ⟨_, rfl⟩
  have hD2 : D ≤ 50 := by
    have h1 : Builtin.Int.intBits (a : Int) + n - 1 ≤ n * 50 := by (first | lia | omega)
    rw [hD]
    exact Nat.le_trans (Nat.div_le_div_right h1) (by rw [Nat.mul_div_cancel_left _ hn0]; exact Nat.le_refl _)
  walk_at "ww"
  simp only [← hn] at S ⊢
  refine int2digits_spec B S (fun _ => by walk_at "sw") T hn0 (by (first | lia | omega)) hD.symm hD2 (by show A.depth + 1 + 60 < _; (first | lia | omega)) ?_
  intro bs' h tk lv vs T' S hv
  have hvl : vs.length = D := by simpa [dg_len] using congrArg List.length hv
  have hax : a < 2 ^ (n * D) := by
    have h1 : Builtin.Int.intBits (a : Int) ≤ n * D := by
      rw [hD]
      have := Nat.div_add_mod (Builtin.Int.intBits (a : Int) + n - 1) n
      have h2 := Nat.mod_lt (Builtin.Int.intBits (a : Int) + n - 1) hn0
      (first | lia | omega)
    simpa using PySem.intBits_le_iff.mp h1
  walk_at "ww"
  refine iterR S (by walk_at "mem") ?_
  refine forR_inv (x := "a_digit") (vs := vs) (fun i m' own' => ∃ lq vq Qs t1 t2 t3, own' = (lq, Cel.lst vq) :: (lv, Cel.lst vs) :: (L, Cel.ns m) :: own2 bs' ∧ m' "b" = some (.int b t1) ∧ m' "n" = some (.int n t2) ∧ m' "r" = some (.int (a / 2 ^ (n * i) % b : Nat) t3) ∧ m' "q_digits" = some (.ref lq) ∧
      vq.map ival = (Qs.map fun x => some ((x : Nat) : Int)).reverse ∧ undg n Qs = a / 2 ^ (n * i) / b ∧ (∀ y ∈ Qs, y < 2 ^ n) ∧ Qs.length + i = D) ?_ (by exact hA) ?_ ?_ (i := vs.length) S ?_ (Nat.le_refl _)
  · rintro i m' own' ⟨lq, vq, Qs, t1, t2, t3, rfl, _⟩
    exact .tail _ (.head _)
  · intro i v h tk m' own' J RL hRL hvi hI0 S
    refine exE6 hI0 fun lq vq Qs t1 t2 t3 hI1 => anE9 hI1 fun e1 mb mn mr mq hq1 hq2 hq3 hq4 => ?_
    clear hI0 hI1
    subst e1
    have hiD : i < D := by rw [← hvl]; exact (List.getElem?_eq_some_iff.mp hvi).1
    obtain ⟨p, hpe⟩ : ∃ p, p = a / 2 ^ (n * i) % 2 ^ n := ⟨_, rfl⟩
    obtain ⟨tv, rfl⟩ : ∃ t, v = .int (p : Nat) t := by
      obtain ⟨t, ht⟩ := map_ival (ks := (dg n D a).map fun x => ((x : Nat) : Int)) (by rw [hv, List.map_map]; rfl) i (p : Int) (by rw [List.getElem?_map, dg_get n D a i hiD, hpe]; rfl)
      exact ⟨t, by rw [ht] at hvi; exact (Option.some.inj hvi).symm⟩
    obtain ⟨P1, hP1⟩ : ∃ P1, P1 = a / 2 ^ (n * (i + 1)) := ⟨_, rfl⟩
    have hP0 : a / 2 ^ (n * i) = P1 * 2 ^ n + p := by
      have e1 : P1 = a / 2 ^ (n * i) / 2 ^ n := by rw [hP1, Nat.div_div_eq_div_mul, ← Nat.pow_add, Nat.mul_add, Nat.mul_one]
      rw [e1, hpe]
      exact (Nat.div_add_mod' _ _).symm
    have hpl : p < 2 ^ n := hpe ▸ Nat.mod_lt _ (Nat.two_pow_pos n)
    have hvq : vq.length ≤ 50 := by
      have := congrArg List.length hq1
      simp only [List.length_map, List.length_reverse] at this
      (first | lia | omega)
    obtain ⟨k1, k2, k3⟩ := long_step n b P1 p hb0 hpl
    rw [← hP1] at mr hq2
    have hbits : Builtin.Int.intBits ((P1 % b * 2 ^ n + p : Nat) : Int) ≤ n + 40 := by
      refine Nat.le_trans ?_ ha
      refine PySem.intBits_le_of_natAbs (y := (a : Int)) ?_ (Nat.le_refl _)
      rw [Int.natAbs_natCast, Int.natAbs_natCast]
      have h1 : P1 % b * 2 ^ n + p ≤ a / 2 ^ (n * i) := by rw [hP0]; exact Nat.add_le_add_right (Nat.mul_le_mul_right _ (Nat.mod_le _ _)) _
      exact Nat.le_trans h1 (Nat.div_le_self _ _)
    walk_at "ww"
    refine lshI (Int.natCast_nonneg _) ?_ ?_
    · have h1 : Builtin.Int.intBits ((P1 % b : Nat) : Int) ≤ 5000 := by
        refine Nat.le_trans (PySem.intBits_le_of_natAbs (y := (b : Int)) ?_ (Nat.le_refl _)) (by (first | lia | omega))
        rw [Int.natAbs_natCast, Int.natAbs_natCast]
        exact Nat.le_of_lt (Nat.mod_lt _ hb0)
      have h2 : (2 : Int) ^ 27 = 134217728 := by decide
      rw [h2]
      (first | lia | omega)
    intro t tk
    rw [Int.toNat_natCast]
    walk_at "ww"
    have e1 : ((P1 % b : Nat) : Int) * 2 ^ n + (p : Int) = ((P1 % b * 2 ^ n + p : Nat) : Int) := by push_cast; rfl
    rw [e1]
    refine div2n1n_spec B S hb0 (by (first | lia | omega)) (by (first | lia | omega)) (by show A.depth + 1 + 10 < _; (first | lia | omega)) ?_
    intro h tk a' t1 t2 S
    walk_at "ww"
    refine exI4 _ _ _ _ ⟨rfl, St.sub S (by walk_at "sl"), exI6 lq _ ((P1 % b * 2 ^ n + p) / b :: Qs) _ _ _ ⟨rfl, by walk_at "lk", by walk_at "lk", by rw [hP0, k2]; walk_at "lk", by walk_at "lk", ?_, ?_, ?_, ?_⟩⟩
    · rw [List.map_append, hq1]
      simp [ival]
    · rw [undg, hq2, hP0, k1, Nat.add_comm, Nat.mul_comm]
    · intro y hy
      rcases List.mem_cons.mp hy with rfl | hy
      · exact k3
      · exact hq3 y hy
    · rw [List.length_cons]; (first | lia | omega)
  · rintro h tk m' own' S ⟨lq, vq, Qs, t1, t2, t3, rfl, mb, mn, mr, mq, hq1, hq2, hq3, hq4⟩
    have hvq : vq.length ≤ 50 := by
      have := congrArg List.length hq1
      simp only [List.length_map, List.length_reverse] at this
      (first | lia | omega)
    rw [Nat.mul_zero, Nat.pow_zero, Nat.div_one] at mr hq2
    walk_at "ww"
    refine digits2int_spec (ds := Qs) B S (fun _ => by walk_at "sw") T' (fun _ => by walk_at "mem") (by rw [List.map_reverse, hq1, List.reverse_reverse]) hq3 hn0 (by (first | lia | omega)) (by (first | lia | omega)) (by show A.depth + 1 + 60 < _; (first | lia | omega)) ?_
    intro bs2 h tk t T2 S
    rw [hq2]
    walk_at "ww"
    exact hQ bs2 _ _ _ _ _ T2 (St.leave1 (S.sub (by walk_at "sl")))
  · have hr0 : a / 2 ^ (n * vs.length) % b = 0 := by rw [hvl, Nat.div_eq_of_lt hax, Nat.zero_mod]
    refine exI6 _ _ [] _ _ _ ⟨rfl, by walk_at "lk", by walk_at "lk", by rw [hr0]; walk_at "lk", by walk_at "lk", rfl, ?_, fun y hy => absurd hy List.not_mem_nil, by rw [hvl]; exact Nat.zero_add _⟩
    rw [hvl, Nat.div_eq_of_lt hax, Nat.zero_div]
    rfl
theorem int_divmod_1 {w : World} {hb : Heap} {L : Addr} {m : Str → Option Value} {own bs : List (Addr × Cel)} {own2 : List (Addr × Cel) → List (Addr × Cel)} {A : Around} {E : Value → Shared → Prop} {hp : Heap} {g : Array GenState} {d : Drawn} {tk : Nat} {os : OsState} {Q : Value → Shared → Prop}
    (B : Bs w hb) (S : St hb hp L m own) (hW : ∀ bs', Sw bs bs' own (own2 bs')) (T : Tb bs) {a b : Int} {ta tb : Tok} (ha0 : 0 ≤ a) (hb0 : 0 < b) (hs : Builtin.Int.intBits b ≤ 5000) (ha : Builtin.Int.intBits a ≤ Builtin.Int.intBits b + 40) (hr : A.depth + 75 < recursionLimit) (hA : A.handled = none)
    (hQ : ∀ bs' h' tk' a' t1 t2, Tb bs' → St hb h' L m ((a', .obj (tupO [.int (a / b) t1, .int (a % b) t2])) :: own2 bs') → Q (.ref a') ⟨h', g, d, tk', os⟩) :
    wpAny (model PG w) A (PySem.call (.ref 129) [.int a ta, .int b tb]) Q E ⟨hp, g, d, tk, os⟩ := by
  refine wpAny_call ?_
  refine callK (binds := [("a", .int a ta), ("b", .int b tb)]) B S (by rfl) (by rfl) (by (first | lia | omega)) (.of_eq rfl) (by rfl) (fun h1 L1 tk1 S => genR fun RF hRF => ?_)
  walk_at "ww"
  obtain ⟨a, rfl⟩ := Int.eq_ofNat_of_zero_le ha0
  obtain ⟨b, rfl⟩ := Int.eq_ofNat_of_zero_le (Int.le_of_lt hb0)
  refine divmod_pos_spec B S (fun _ => by walk_at "sw") T (by (first | lia | omega)) hs ha (by show A.depth + 1 + 70 < _; (first | lia | omega)) (by exact hA) ?_
  intro bs' h tk a' t1 t2 T' S
  walk_at "ww"
  refine hQ bs' _ _ _ t1 t2 T' ?_
  rw [show (a : Int) / b = ((a / b : Nat) : Int) by push_cast; rfl, show (a : Int) % b = ((a % b : Nat) : Int) by push_cast; rfl]
  exact S.leave1
theorem int_divmod_2 {w : World} {hb : Heap} {L : Addr} {m : Str → Option Value} {own bs : List (Addr × Cel)} {own2 : List (Addr × Cel) → List (Addr × Cel)} {A : Around} {E : Value → Shared → Prop} {hp : Heap} {g : Array GenState} {d : Drawn} {tk : Nat} {os : OsState} {Q : Value → Shared → Prop}
    (B : Bs w hb) (S : St hb hp L m own) (hW : ∀ bs', Sw bs bs' own (own2 bs')) (T : Tb bs) {a b : Int} {ta tb : Tok} (hb0 : 0 < b) (hs : Builtin.Int.intBits b ≤ 5000) (ha : Builtin.Int.intBits a ≤ Builtin.Int.intBits b + 40) (hr : A.depth + 80 < recursionLimit) (hA : A.handled = none)
    (hQ : ∀ bs' h' tk' a' t1 t2, Tb bs' → St hb h' L m ((a', .obj (tupO [.int (a / b) t1, .int (a % b) t2])) :: own2 bs') → Q (.ref a') ⟨h', g, d, tk', os⟩) :
    wpAny (model PG w) A (PySem.call (.ref 129) [.int a ta, .int b tb]) Q E ⟨hp, g, d, tk, os⟩ := by
  by_cases ha0 : 0 ≤ a
  · exact int_divmod_1 B S hW T ha0 hb0 hs ha (by (first | lia | omega)) hA hQ
  refine wpAny_call ?_
  refine callK (binds := [("a", .int a ta), ("b", .int b tb)]) B S (by rfl) (by rfl) (by (first | lia | omega)) (.of_eq rfl) (by rfl) (fun h1 L1 tk1 S => genR fun RF hRF => ?_)
  walk_at "ww"
  refine int_divmod_1 B S (fun _ => by walk_at "sw") T (by (first | lia | omega)) hb0 hs (Nat.le_trans (PySem.intBits_le_of_natAbs (y := a) (by (first | lia | omega)) (Nat.le_refl _)) ha) (by show A.depth + 1 + 75 < _; (first | lia | omega)) (by exact hA) ?_
  intro bs' h tk a' t1 t2 T' S
  have h1 := Int.mul_ediv_add_emod (-a - 1) b
  have h2 := Int.emod_nonneg (-a - 1) (show b ≠ 0 by (first | lia | omega))
  have h3 := Int.emod_lt_of_pos (-a - 1) hb0
  have k : a = b * (-((-a - 1) / b) - 1) + (b + (-((-a - 1) % b) - 1)) := by
    rw [Int.mul_sub, Int.mul_neg, Int.mul_one]
    (first | lia | omega)
  obtain ⟨k1, k2⟩ := (Int.ediv_emod_unique (a := a) (b := b) (q := -((-a - 1) / b) - 1) (r := b + (-((-a - 1) % b) - 1)) hb0).mpr ⟨by (first | lia | omega), by (first | lia | omega), by (first | lia | omega)⟩
  rw [k1, k2] at hQ
  walk_at "ww"
  exact hQ _ _ _ _ _ _ T' (St.leave1 (S.sub (by walk_at "sl")))
theorem int_divmod_3 {w : World} {hb : Heap} {L : Addr} {m : Str → Option Value} {own bs : List (Addr × Cel)} {own2 : List (Addr × Cel) → List (Addr × Cel)} {A : Around} {E : Value → Shared → Prop} {hp : Heap} {g : Array GenState} {d : Drawn} {tk : Nat} {os : OsState} {Q : Value → Shared → Prop}
    (B : Bs w hb) (S : St hb hp L m own) (hW : ∀ bs', Sw bs bs' own (own2 bs')) (T : Tb bs) {a b : Int} {ta tb : Tok} (hb0 : b ≠ 0) (hs : Builtin.Int.intBits b ≤ 5000) (ha : Builtin.Int.intBits a ≤ Builtin.Int.intBits b + 40) (hr : A.depth + 90 < recursionLimit) (hA : A.handled = none)
    (hQ : ∀ bs' h' tk' a' t1 t2, Tb bs' → St hb h' L m ((a', .obj (tupO [.int (a.fdiv b) t1, .int (a.fmod b) t2])) :: own2 bs') → Q (.ref a') ⟨h', g, d, tk', os⟩) :
    wpAny (model PG w) A (PySem.call (.ref 129) [.int a ta, .int b tb]) Q E ⟨hp, g, d, tk, os⟩ := by
  by_cases hb1 : 0 < b
  · rw [fdiv_pos hb1, fmod_pos hb1] at hQ
    exact int_divmod_2 B S hW T hb1 hs ha (by (first | lia | omega)) hA hQ
  refine wpAny_call ?_
  refine callK (binds := [("a", .int a ta), ("b", .int b tb)]) B S (by rfl) (by rfl) (by (first | lia | omega)) (.of_eq rfl) (by rfl) (fun h1 L1 tk1 S => genR fun RF hRF => ?_)
  walk_at "ww"
  have hbn : Builtin.Int.intBits (-b) = Builtin.Int.intBits b := Nat.le_antisymm (PySem.intBits_neg_le (Nat.le_refl _)) (by have := PySem.intBits_neg_le (x := -b) (Nat.le_refl _); rwa [Int.neg_neg] at this)
  refine int_divmod_2 B S (fun _ => by walk_at "sw") T (by (first | lia | omega)) (by rw [hbn]; exact hs) (by rw [hbn]; exact PySem.intBits_neg_le ha) (by show A.depth + 1 + 80 < _; (first | lia | omega)) (by exact hA) ?_
  intro bs' h tk a' t1 t2 T' S
  have k1 : a.fdiv b = -a / -b := by
    rw [← fdiv_pos (a := -a) (b := -b) (by (first | lia | omega)), Int.neg_fdiv_neg]
  have k2 : a.fmod b = -(-a % -b) := by
    rw [← fmod_pos (a := -a) (b := -b) (by (first | lia | omega)), Int.fmod_def, Int.fmod_def, Int.neg_fdiv_neg, Int.neg_mul]
    (first | lia | omega)
  rw [k1, k2] at hQ
  walk_at "ww"
  exact hQ _ _ _ _ _ _ T' (St.leave1 (S.sub (by walk_at "sl")))
/-- a text by its signs -/
noncomputable def st (l : List Nat) : Str := ⟨l.toArray⟩
theorem st_len (l : List Nat) : (st l).length = l.length := by simp [st, Str.length]
theorem st_app (a b : List Nat) : st a ++ st b = st (a ++ b) := by
  show Str.append (st a) (st b) = _
  simp [Str.append, st]
theorem st_inj {a b : List Nat} (h : st a = st b) : a = b := by
  have := congrArg (fun s => s.cps.toList) h
  simpa [st] using this
theorem st_nil : Str.empty = st [] := rfl
noncomputable def sval : Value → Option (List Nat)
  | .str s _ => some s.cps.toList
  | _ => none
theorem sval_some {v : Value} {k : List Nat} (h : sval v = some k) : ∃ t, v = .str (st k) t := by
  cases v with
  | str s t => cases h; exact ⟨t, by simp [st]⟩
  | _ => cases h
theorem map_sval {vs : List Value} {ks : List (List Nat)} (h : vs.map sval = ks.map some) (i : Nat) (k : List Nat) (hk : ks[i]? = some k) : ∃ t, vs[i]? = some (.str (st k) t) := by
  have := congrArg (fun l => l[i]?) h
  simp only [List.getElem?_map, hk, Option.map_some] at this
  cases q : vs[i]? with
  | none => rw [q] at this; cases this
  | some v =>
    rw [q] at this
    obtain ⟨t, rfl⟩ := sval_some (Option.some.inj this)
    exact ⟨t, rfl⟩
theorem map_sval_len {vs : List Value} {ks : List (List Nat)} (h : vs.map sval = ks.map some) : vs.length = ks.length := by
  simpa using congrArg List.length h
theorem sval_st (k : List Nat) (t : Tok) : sval (.str (st k) t) = some k := by simp [sval, st]
theorem strsAre_of {ks : List (List Nat)} : ∀ {vs : List Value}, vs.map sval = ks.map some → StrsAre vs (ks.map st) := by
  induction ks with
  | nil => intro vs h; cases vs with
    | nil => exact .nil
    | cons => cases h
  | cons k ks ih =>
    intro vs h
    cases vs with
    | nil => cases h
    | cons v vs =>
      rw [List.map_cons, List.map_cons] at h
      obtain ⟨h1, h2⟩ := List.cons.inj h
      obtain ⟨t, rfl⟩ := sval_some h1
      exact .cons _ t (ih h2)
/-- texts with a separator between them -/
noncomputable def glue (sep : List Nat) : List (List Nat) → List Nat
  | [] => []
  | [x] => x
  | x :: y :: r => x ++ sep ++ glue sep (y :: r)
theorem glue_join (sep : List Nat) : ∀ ks : List (List Nat), Str.join (st sep) (ks.map st) = st (glue sep ks)
  | [] => rfl
  | [_] => rfl
  | x :: y :: r => by
    have ih := glue_join sep (y :: r)
    rw [List.map_cons] at ih
    show st x ++ st sep ++ Str.join (st sep) (st y :: r.map st) = _
    rw [ih, st_app, st_app]
    rfl
section
variable {w : World} {hb : Heap} {L : Addr} {m : Str → Option Value} {own own' : List (Addr × Cel)} {A : Around} {E : Value → Shared → Prop} {hp : Heap} {g : Array GenState} {d : Drawn} {tk : Nat} {os : OsState} {prog : Program} {l : Addr} {vs : List Value} {env : Env} {a b : List Nat} {t u : Tok} {Q : Value → Shared → Prop}
theorem addS (hz : a.length + b.length < 16000000) (h : ∀ t tk', Q (.str (st (a ++ b)) t) ⟨hp, g, d, tk', os⟩) : wpAny (model prog w) A (binaryOp .Add (.str (st a) t) (.str (st b) u)) Q E ⟨hp, g, d, tk, os⟩ :=
  SB.add (fun t' k => by rw [st_app]; exact h _ _) (by rw [st_len, st_len]; have z : sizeLine = 16777216 := by decide
                                                       omega)
theorem iaddS (hz : a.length + b.length < 16000000) (h : ∀ t tk', Q (.str (st (a ++ b)) t) ⟨hp, g, d, tk', os⟩) : wpAny (model prog w) A (inplaceOp .Add (.str (st a) t) (.str (st b) u)) Q E ⟨hp, g, d, tk, os⟩ :=
  SB.iadd (fun t' k => by rw [st_app]; exact h _ _) (by rw [st_len, st_len]; have z : sizeLine = 16777216 := by decide
                                                        omega)
theorem foldl_repS (x : Nat) : ∀ (n : Nat) (acc : Array Nat), (List.foldl (fun x1 x2 => x1 ++ x2) acc (List.replicate n #[x])) = acc ++ (List.replicate n x).toArray
  | 0, acc => by simp
  | n + 1, acc => by
    rw [List.replicate_succ, List.foldl_cons, foldl_repS x n, List.replicate_succ]
    apply Array.ext'
    simp
theorem mulS {c : Nat} {n : Int} (hn : n < 1000000) (hlo : -1000000 < n) (h : ∀ t tk', Q (.str (st (List.replicate n.toNat c)) t) ⟨hp, g, d, tk', os⟩) : wpAny (model prog w) A (binaryOp .Mult (.str (st [c]) t) (.int n u)) Q E ⟨hp, g, d, tk, os⟩ := by
  refine SB.mul ⟨by simp; omega, fun h1 h2 => ?_, fun h1 h2 => ?_⟩ fun t' k => ?_
  · rw [st_len]
    have : (1 : Int) ≤ (2 ^ 63 - 1) / n := by
      rw [Int.le_ediv_iff_mul_le (by omega)]
      omega
    simp only [List.length_singleton]
    omega
  · rw [st_len]
    simp only [List.length_singleton, Nat.one_mul]
    have z : sizeLine = 16777216 := by decide
    unfold Builtin.Str.tooLong
    simp
    omega
  · have e : Txt.mul (st [c]) n = st (List.replicate n.toNat c) := by
      unfold Txt.mul
      by_cases h1 : n < 1
      · rw [if_pos h1, show n.toNat = 0 by omega]; rfl
      · rw [if_neg h1]
        by_cases h2 : n = 1
        · subst h2; rfl
        · rw [if_neg (by rw [st_len]; simp [h2])]
          show (⟨List.foldl (fun x1 x2 => x1 ++ x2) #[] (List.replicate n.toNat #[c])⟩ : Str) = _
          rw [foldl_repS]
          simp [st]
    rw [e]
    exact h _ _
theorem lenSt (hx : a.length < 1000000000) (h : ∀ t tk', Q (.int (a.length : Nat) t) ⟨hp, g, d, tk', os⟩) : wpAny (model prog w) A (call (.builtin "len") [.str (st a) t]) Q E ⟨hp, g, d, tk, os⟩ :=
  lenS (by rw [st_len]; exact hx) (by rw [st_len]; exact h)
theorem eqS {s : Shared} (h : Q (.bool (decide (a = b))) s) : wpAny (model prog w) A (compareOp .Eq (.str (st a) t) (.str (st b) u)) Q E s :=
  P.eq_str (by
    have e : ((st a).cps.toList == (st b).cps.toList) = decide (a = b) := by
      simp only [st]
      by_cases q : a = b
      · subst q; simp
      · simp [q]
    rw [e]; exact h)
theorem neS {s : Shared} (h : Q (.bool (decide (a ≠ b))) s) : wpAny (model prog w) A (compareOp .NotEq (.str (st a) t) (.str (st b) u)) Q E s :=
  P.ne_str (by
    have e : ((st a).cps.toList != (st b).cps.toList) = decide (a ≠ b) := by
      simp only [st]
      by_cases q : a = b
      · subst q; simp
      · simp [q]
    rw [e]; exact h)
theorem joinS {ks : List (List Nat)} {D : Addr} {sep : List Nat} (S : St hb hp L m own) (hl : (D, .lst vs) ∈ own) (hv : vs.map sval = ks.map some) (hz : (ks.map (·.length)).sum + ks.length * sep.length ≤ 16000000) (h : ∀ t tk', Q (.str (st (glue sep ks)) t) ⟨hp, g, d, tk', os⟩) :
    wpAny (model prog w) A (call (.builtin "str.join") [.str (st sep) t, .ref D]) Q E ⟨hp, g, d, tk, os⟩ := by
  refine join_list (lst_isList (S.mem hl)) (strsAre_of hv) ?_ fun t' k => ?_
  · rw [List.map_map, List.length_map, st_len]
    have e : (Str.length ∘ st) = List.length := funext fun x => st_len x
    have e' : ((fun x => x.length) ∘ st) = List.length := funext fun x => st_len x
    rw [e']
    exact Nat.le_trans hz (by decide)
  · have e : Txt.join (st sep) (ks.map st) = st (glue sep ks) := (StrLaws.glued_eq_join _ _).trans (glue_join sep ks)
    rw [e]; exact h _ _
end
theorem ofS_b : Str.ofString " " = st [32] := by decide +kernel
theorem ofS_t : Str.ofString "\t" = st [9] := by decide +kernel
theorem ofS_n : Str.ofString "\n" = st [10] := by decide +kernel
theorem ofS_0 : Str.ofString "" = st [] := by decide +kernel
theorem ofS_x : Str.ofString "x\t " = st [120, 9, 32] := by decide +kernel
theorem ofS_w : Str.ofString "\n\t\r " = st [10, 9, 13, 32] := by decide +kernel
theorem ofS_q : Str.ofString "\"" = st [34] := by decide +kernel
theorem ofS_s : Str.ofString "\\" = st [92] := by decide +kernel
theorem ofS_e : Str.ofString "end" = st [101, 110, 100] := by decide +kernel
theorem ofS_d : Str.ofString "." = st [46] := by decide +kernel
theorem strE {A : Around} {E : Value → Shared → Prop} {hp : Heap} {g : Array GenState} {d : Drawn} {tk : Nat} {os : OsState} {Q : Value → Shared → Prop} {k : Str} {a : List Nat} {r : Nat} {pos : Pos} {env : Env} {M : Model} (e : k = st a) (h : ∀ t tk', Q (.str (st a) t) ⟨hp, g, d, tk', os⟩) : wpAny M A (eval (.Constant (.str k) r pos) env) Q E ⟨hp, g, d, tk, os⟩ := by
  subst e
  exact strI h
noncomputable def ub (cs : List Nat) (hi o : Nat) : Nat := 1 + (((cs.take hi).drop 1).takeWhile (fun c => decide (c ≤ o))).length
noncomputable def qhF : Nat → List Nat → Nat → Nat → List Nat
  | 0, _, _, _ => []
  | f + 1, cs, hi, o => if o = 0 then [] else
    let c := cs.getD (ub cs hi o - 1) 1
    List.replicate (o / c) c ++ qhF f cs (ub cs hi o - 1) (o % c)
noncomputable def qh (cs : List Nat) (o : Nat) : List Nat := qhF (o + 1) cs cs.length o
theorem ub_eq {cs : List Nat} {hi o r : Nat} (hhi : hi ≤ cs.length) (h1 : 1 ≤ r) (h2 : r ≤ hi ∨ r = 1) (h3 : ∀ i, 1 ≤ i → i < r → cs.getD i 0 ≤ o) (h4 : ∀ i, r ≤ i → i < hi → o < cs.getD i 0) : r = ub cs hi o := by
  unfold ub
  obtain ⟨l, hl⟩ : ∃ l, l = (cs.take hi).drop 1 := ⟨_, rfl⟩
  rw [← hl]
  have hll : l.length = hi - 1 := by rw [hl, List.length_drop, List.length_take]; (first | lia | omega)
  have hget : ∀ j, j < hi - 1 → l[j]? = some (cs.getD (j + 1) 0) := by
    intro j hj
    rw [hl, List.getElem?_drop, List.getElem?_take, if_pos (by (first | lia | omega)), Nat.add_comm 1 j, List.getD_eq_getElem?_getD, List.getElem?_eq_getElem (by (first | lia | omega))]
    rfl
  clear hl
  have key : ∀ (l : List Nat) (k : Nat), (∀ j, j < k → ∃ c, l[j]? = some c ∧ c ≤ o) → (∀ c, l[k]? = some c → o < c) → (l.takeWhile (fun c => decide (c ≤ o))).length = k := by
    intro l
    induction l with
    | nil =>
      intro k h1 _
      cases k with
      | zero => rfl
      | succ k => obtain ⟨c, hc, _⟩ := h1 0 (by (first | lia | omega)); cases hc
    | cons x l ih =>
      intro k h1 h2
      cases k with
      | zero =>
        have := h2 x rfl
        rw [List.takeWhile_cons_of_neg (by simp; (first | lia | omega))]
        rfl
      | succ k =>
        obtain ⟨c, hc, hle⟩ := h1 0 (by (first | lia | omega))
        cases hc
        rw [List.takeWhile_cons_of_pos (by simpa using hle), List.length_cons, ih k (fun j hj => by simpa using h1 (j + 1) (by (first | lia | omega))) (fun c hc => h2 c (by simpa using hc))]
  rw [key l (r - 1) (fun j hj => ⟨_, hget j (by (first | lia | omega)), h3 (j + 1) (by (first | lia | omega)) (by (first | lia | omega))⟩) (fun c hc => by
    have hlt : r - 1 < hi - 1 := by rw [← hll]; exact (List.getElem?_eq_some_iff.mp hc).1
    rw [hget _ hlt] at hc
    cases hc
    exact h4 _ (by (first | lia | omega)) (by (first | lia | omega)))]
  (first | lia | omega)
theorem quick_hand_spec {w : World} {hb : Heap} {L : Addr} {m : Str → Option Value} {own bs : List (Addr × Cel)} {own2 : List (Addr × Cel) → List (Addr × Cel)} {A : Around} {E : Value → Shared → Prop} {hp : Heap} {g : Array GenState} {d : Drawn} {tk : Nat} {os : OsState} {Q : Value → Shared → Prop}
    (B : Bs w hb) (S : St hb hp L m own) (hW : ∀ bs', Sw bs bs' own (own2 bs')) (T : Tb bs) {u : Int} {o : Nat} {lc : Addr} {vs : List Value} {cs : List Nat} {t1 t2 : Tok} (hl : ∀ bs', (lc, Cel.lst vs) ∈ own2 bs') (hv : vs.map ival = cs.map fun x => some ((x : Nat) : Int))
    (hs : ∀ i j, i ≤ j → j < cs.length → cs.getD i 0 ≤ cs.getD j 0) (hc0 : cs.getD 0 0 = 1) (hc12 : ∀ i, cs.getD i 0 ≤ 12) (hcl : cs.length ≤ 9) (hu0 : 0 < u) (hu : Builtin.Int.intBits u ≤ 4900) (ho : o ≤ 100) (hr : A.depth + 110 < recursionLimit) (hA : A.handled = none)
    (hQ : ∀ bs' h' tk' lp pv, Tb bs' → St hb h' L m ((lp, .lst pv) :: own2 bs') → pv.map sval = (qh cs o).map (fun c => some (List.replicate c 32)) → Q (.ref lp) ⟨h', g, d, tk', os⟩) :
    wpAny (model PG w) A (PySem.call (.ref 227) [.int ((o : Int) * u) t1, .ref lc, .int u t2]) Q E ⟨hp, g, d, tk, os⟩ := by
  have hvl : vs.length = cs.length := by simpa using congrArg List.length hv
  have hl0 := hl bs
  have hown : own2 bs = own := by
    obtain ⟨pre, e1, e2⟩ := (hW bs).split
    rw [e1, e2]
  rw [hown] at hl0
  refine wpAny_call ?_
  refine callKC (binds := [("owed", .int ((o : Int) * u) t1), ("coins", .ref lc), ("unit", .int u t2)]) B S (by rfl) (by rfl) (by (first | lia | omega)) (.of_eq rfl) (by rfl) (by decide +kernel) (fun h1 L1 tk1 S1 => genR fun RF hRF => ?_)
  have S : St hb h1 L1 (fun y => if y = "coins" then some (.ref lc) else if y = "owed" then some (.int ((o : Int) * u) t1) else none) ((L1 + 1, .cel (some (.int u t2))) :: (L, .ns m) :: own) := S1
  clear S1
  walk_at "ww"
  refine while_inv (fun n h' => ∃ bs' m' lp pv, ∃ o' hi f : Nat, ∃ t1, n = o' ∧ Tb bs' ∧ St hb h' L1 m' ((lp, Cel.lst pv) :: (L1 + 1, Cel.cel (some (.int u t2))) :: (L, Cel.ns m) :: own2 bs') ∧ m' "owed" = some (.int ((o' : Int) * u) t1) ∧ m' "coins" = some (.ref lc) ∧ m' "paid" = some (.ref lp) ∧ (∃ t, m' "place" = some (.int ((hi : Int) + 1) t)) ∧
      hi ≤ cs.length ∧ o' < f ∧ o' ≤ o ∧ pv.length + o' ≤ o ∧ pv.map sval ++ (qhF f cs hi o').map (fun c => some (List.replicate c 32)) = (qh cs o).map (fun c => some (List.replicate c 32))) ?_ o ?_
  · intro n h tk RL hRL hI0
    refine exE8 hI0 fun bs' m' lp pv o' hi f t1' hI1 => anE12 hI1 fun e1 T' S mo mc mp ml i1 i2 i3 i4 i6 => ?_
    clear hI0 hI1
    subst e1
    obtain ⟨t3, ml⟩ := ml
    have hl1 := hl bs'
    have S0 := S
    have S0 : St hb h L m (own2 bs') := St.leave (S.sub (by walk_at "sl"))
    walk_at "ww"
    refine if_s (fun hc => ?_) (fun hc => ?_)
    · have hc0n : n ≠ 0 := by
        intro e; subst e; simp at hc
      walk_at "ww"
      refine mkL B S (fun _ => by walk_at "sw") (by exact T'.k) B.code.1 (by rfl) ?_ (by rfl) (by rfl)
      intro bs2 f1 c' oc ws t pm ctv h tk hbs hT hcm hd hvv S
      have T2 : Tb bs2 := ⟨T'.i.other (by decide) (S0.ndT (Sw.re hW bs' bs')) hbs, T'.j.other (by decide) (S0.ndT (Sw.re hW bs' bs')) hbs, hT⟩
      generalize hfo : kla_obj _ _ _ _ _ _ _ _ _ = fo at S
      obtain ⟨fd, hfd⟩ : ∃ fd, fo.data = .func fd := ⟨_, by rw [← hfo]⟩
      have K : KeyOk w hb (.ref f1) (fun v k => ∃ (c : Nat) (t : Tok), v = .int (c : Int) t ∧ c ≤ 1000 ∧ k = (c : Int) * u) (fun ow => (f1, Cel.obj fo) ∈ ow ∧ (c', Cel.obj oc) ∈ ow ∧ (L1 + 1, Cel.cel (some (.int u t2))) ∈ ow) := by
        refine ⟨?_, fun S q => FnOr.o S q.1 hfd, fun p ow q => ⟨.tail _ q.1, .tail _ q.2.1, .tail _ q.2.2⟩, rfl⟩
        rintro A' E' hp' g' d' tk' os' Q' L' m' ow k v ⟨c, tc, rfl, hc1, rfl⟩ S ⟨q1, q2, q3⟩ hr' h
        have q1' := q1
        rw [← hfo] at q1'
        refine wpAny_call ?_
        refine callE (binds := [("coin", .int (c : Int) tc)]) B S q1' q2 hd hvv (by (first | lia | omega)) rfl (by rfl) (fun h1 L1 tk1 S1 => ?_)
        clear S
        walk_at "ww"
        refine mulI (mulSm (by (first | lia | omega))) ?_
        intro t tk
        exact h _ _ _ S1.leave
      have hl2 := hl bs2
      walk_at "ww"
      rw [show (hi : Int) + 1 - 1 = (hi : Int) by (first | lia | omega)]
      refine bisect_spec B S (by walk_at "mem") K (f := fun i => ((cs.getD i 0 : Nat) : Int) * u) ?_ ⟨by walk_at "mem", .tail _ (.tail _ (.tail _ (.tail _ ((Sw.re hW bs' bs2).mem' hcm)))), by walk_at "mem"⟩ hi (.inr ⟨⟨_, rfl⟩, by (first | lia | omega)⟩) (by (first | lia | omega)) (by (first | lia | omega)) ?_ (by show A.depth + 1 + 10 < _; (first | lia | omega)) ?_
      · intro i v hi'
        have hlt : i < cs.length := by rw [← hvl]; exact (List.getElem?_eq_some_iff.mp hi').1
        obtain ⟨t, ht⟩ := map_ival (ks := cs.map fun x => ((x : Nat) : Int)) (by rw [hv, List.map_map]; rfl) i ((cs.getD i 0 : Nat) : Int) (by rw [List.getElem?_map, List.getD_eq_getElem?_getD, List.getElem?_eq_getElem hlt]; rfl)
        rw [ht] at hi'
        cases hi'
        exact ⟨cs.getD i 0, t, rfl, Nat.le_trans (hc12 i) (by decide), rfl⟩
      · intro i j _ hij hj
        exact Int.mul_le_mul_of_nonneg_right (Int.ofNat_le.mpr (hs i j hij (by (first | lia | omega)))) (by (first | lia | omega))
      intro h tk t r S hr1 hr2 hr3
      obtain ⟨r, rfl⟩ : ∃ n : Nat, r = n := ⟨r.toNat, by (first | lia | omega)⟩
      refine genG fun G hG => ?_
      have hub : r = ub cs hi n := by
        refine ub_eq (by (first | lia | omega)) (by (first | lia | omega)) (by (first | lia | omega)) (fun i h1 h2 => ?_) (fun i h1 h2 => ?_)
        · have := Int.le_of_mul_le_mul_right (hr2 i (by (first | lia | omega)) (by (first | lia | omega))) hu0
          (first | lia | omega)
        · have := Int.lt_of_mul_lt_mul_right (hr3 i (by (first | lia | omega)) h2) (by (first | lia | omega))
          (first | lia | omega)
      have hcr : cs.getD (r - 1) 0 ≤ n := by
        by_cases h1 : r = 1
        · subst h1; rw [Nat.sub_self, hc0]; (first | lia | omega)
        · have := Int.le_of_mul_le_mul_right (hr2 (r - 1) (by (first | lia | omega)) (by (first | lia | omega))) hu0
          (first | lia | omega)
      have hrl : r - 1 < cs.length := by
        have : 0 < cs.length := by
          cases cs with
          | nil => cases hc0
          | cons => simp
        (first | lia | omega)
      obtain ⟨c, hc⟩ : ∃ c, c = cs.getD (r - 1) 0 := ⟨_, rfl⟩
      rw [← hc] at hcr
      have hcp : 0 < c := by
        have := hs 0 (r - 1) (by (first | lia | omega)) hrl
        (first | lia | omega)
      have hc12' := hc12 (r - 1)
      rw [← hc] at hc12'
      obtain ⟨tc, hget⟩ : ∃ t, vs[r - 1]? = some (.int (c : Int) t) :=
        map_ival (ks := cs.map fun x => ((x : Nat) : Int)) (by rw [hv, List.map_map]; rfl) (r - 1) (c : Int) (by rw [List.getElem?_map, hc, List.getD_eq_getElem?_getD, List.getElem?_eq_getElem hrl]; rfl)
      refine hG ?_
      clear hG G
      walk_at "ww"
      refine subL (by assumption) (by walk_at "mem") (by (first | lia | omega)) (by (first | lia | omega)) (by rw [show ((r : Int) - 1).toNat = r - 1 by (first | lia | omega)]; exact hget) ?_
      walk_at "ww"
      refine mulI (mulSm (by (first | lia | omega))) ?_
      intro t tk
      walk_at "ww"
      have hbu : Builtin.Int.intBits u ≤ Builtin.Int.intBits ((c : Int) * u) := by
        refine PySem.intBits_le_of_natAbs ?_ (Nat.le_refl _)
        rw [Int.natAbs_mul, Int.natAbs_natCast]
        exact Nat.le_mul_of_pos_left _ hcp
      have hbn : Builtin.Int.intBits ((n : Int) * u) ≤ 7 + Builtin.Int.intBits u :=
        PySem.intBits_mul_le (PySem.intBits_le_iff.mpr (by rw [Int.natAbs_natCast]; (first | lia | omega))) (Nat.le_refl _)
      have hbc : Builtin.Int.intBits ((c : Int) * u) ≤ 4 + Builtin.Int.intBits u :=
        PySem.intBits_mul_le (PySem.intBits_le_iff.mpr (by rw [Int.natAbs_natCast]; (first | lia | omega))) (Nat.le_refl _)
      have hS1 := Sw.re hW bs2
      refine int_divmod_2 B S (fun _ => by walk_at "sw") T2 (Int.mul_pos (by (first | lia | omega)) hu0) (by (first | lia | omega)) (by (first | lia | omega)) (by show A.depth + 1 + 80 < _; (first | lia | omega)) (by exact hA) ?_
      intro bs3 h tk a' t1 t2 T3 S
      refine genG fun G hG => ?_
      obtain ⟨q, hq⟩ : ∃ q, q = n / c := ⟨_, rfl⟩
      obtain ⟨rm, hrm⟩ : ∃ rm, rm = n % c := ⟨_, rfl⟩
      have hlt : rm < c := hrm ▸ Nat.mod_lt _ hcp
      have hdm : c * q + rm = n := by rw [hq, hrm]; exact Nat.div_add_mod n c
      have hdc : q ≤ c * q := Nat.le_mul_of_pos_left _ hcp
      have hq1 : 0 < q := hq ▸ Nat.div_pos hcr hcp
      have e1 : ((n : Int) * u) / ((c : Int) * u) = (q : Int) := by
        rw [Int.mul_ediv_mul_of_pos_left _ _ hu0, hq]; push_cast; rfl
      have e2 : ((n : Int) * u) % ((c : Int) * u) = (rm : Int) * u := by
        rw [Int.emod_def, e1, ← hdm]
        push_cast
        rw [Int.add_mul, Int.mul_right_comm]
        (first | lia | omega)
      refine hG ?_
      clear hG G
      rw [e1, e2] at S
      have hl3 := hl bs3
      walk_at "ww"
      refine subL (by assumption) (by walk_at "mem") (by (first | lia | omega)) (by (first | lia | omega)) (by rw [show ((r : Int) - 1).toNat = r - 1 by (first | lia | omega)]; exact hget) ?_
      walk_at "ww"
      rw [Int.toNat_natCast, Int.toNat_natCast] at S
      refine exI3 rm _ _ ⟨by (first | lia | omega), rfl, exI8 bs3 _ lp _ rm (r - 1) (f - 1) _ ⟨rfl, T3, St.sub S (by walk_at "sl"), by walk_at "lk", by walk_at "lk", by walk_at "lk", ⟨_, by rw [show ((r - 1 : Nat) : Int) + 1 = r by (first | lia | omega)]; walk_at "lk"⟩, by (first | lia | omega), by (first | lia | omega), by (first | lia | omega), ?_, ?_⟩⟩
      · rw [List.length_append, List.length_replicate]; (first | lia | omega)
      · obtain ⟨f, rfl⟩ : ∃ f', f = f' + 1 := ⟨f - 1, by (first | lia | omega)⟩
        rw [← i6, qhF, if_neg hc0n, ← hub]
        have hcd : cs.getD (r - 1) 1 = c := by
          rw [hc, List.getD_eq_getElem?_getD, List.getD_eq_getElem?_getD, List.getElem?_eq_getElem hrl]; rfl
        simp only [hcd, ← hq, ← hrm, List.map_append, List.map_replicate, sval_st, Nat.add_sub_cancel, List.append_assoc]
    · have hc : n = 0 := by
        rcases Nat.eq_zero_or_pos n with e | e
        · exact e
        · have := Int.mul_pos (show (0 : Int) < n by (first | lia | omega)) hu0
          simp at hc
          have := hc (by (first | lia | omega))
          (first | lia | omega)
      subst hc
      walk_at "ww"
      refine hQ bs' _ _ lp pv T' (St.leave1 (S.sub (by walk_at "sl"))) ?_
      rw [← i6]
      cases f with
      | zero => (first | lia | omega)
      | succ f => simp [qhF]
  · rw [← hown] at S
    exact exI8 bs _ l [] o cs.length (o + 1) _ ⟨rfl, T, S, by walk_at "lk", by walk_at "lk", by walk_at "lk", ⟨_, by rw [← hvl]; walk_at "lk"⟩, Nat.le_refl _, by (first | lia | omega), Nat.le_refl _, by simp, rfl⟩
noncomputable def skey : Value → Option Str
  | .str k _ => some k
  | _ => none
/-- a dict's entries by name -/
noncomputable def Dct (fs : List (Str × Value)) (es : List DictEntry) : Prop := es.map (fun e => (skey e.key, e.val)) = fs.map (fun p => (some p.1, p.2))
noncomputable def putF (name : Str) (v : Value) : List (Str × Value) → List (Str × Value)
  | [] => [(name, v)]
  | p :: r => if p.1 = name then (p.1, v) :: r else p :: putF name v r
theorem skey_some {v : Value} {k : Str} (h : skey v = some k) : ∃ t, v = .str k t := by
  cases v with
  | str k' t => cases h; exact ⟨t, rfl⟩
  | _ => cases h
theorem isStr_str {k name : Str} {t : Tok} : (Value.str k t).isStr name = decide (k = name) := by
  show (k == name) = _
  by_cases q : k = name
  · subst q; simp
  · simp [q]
theorem Dct.get {fs : List (Str × Value)} {es : List DictEntry} (h : Dct fs es) (name : Str) : getL name es = some (fs.lookup name) := by
  have any : es.any (·.refKey) = false := by
    rw [List.any_eq_false]
    intro e he
    have : (skey e.key, e.val) ∈ es.map (fun e => (skey e.key, e.val)) := List.mem_map_of_mem he
    rw [h] at this
    obtain ⟨p, _, hp⟩ := List.mem_map.mp this
    obtain ⟨t, ht⟩ := skey_some (Prod.mk.inj hp).1.symm
    simp [DictEntry.refKey, ht]
  unfold getL
  rw [any]
  clear any
  induction fs generalizing es with
  | nil => cases es with
    | nil => rfl
    | cons => cases h
  | cons p fs ih =>
    cases es with
    | nil => cases h
    | cons e es =>
      obtain ⟨h1, h2⟩ := List.cons.inj h
      obtain ⟨t, ht⟩ := skey_some (Prod.mk.inj h1).1
      have hv : e.val = p.2 := (Prod.mk.inj h1).2
      have ih := ih h2
      rw [List.find?_cons, ht, isStr_str, List.lookup_cons]
      by_cases q : p.1 = name
      · subst q; simp [hv]
      · have q' : (name == p.1) = false := by simpa using fun e => q e.symm
        simp only [q, decide_false, q']
        exact ih
theorem Dct.put {fs : List (Str × Value)} {es : List DictEntry} (h : Dct fs es) (name : Str) (hsh : Int) (t : Tok) (v : Value) : Dct (putF name v fs) (putL name hsh (.str name t) v es) := by
  induction fs generalizing es with
  | nil => cases es with
    | nil => rfl
    | cons => cases h
  | cons p fs ih =>
    cases es with
    | nil => cases h
    | cons e es =>
      obtain ⟨h1, h2⟩ := List.cons.inj h
      obtain ⟨t', ht⟩ := skey_some (Prod.mk.inj h1).1
      have hv : e.val = p.2 := (Prod.mk.inj h1).2
      unfold putL putF
      rw [ht, isStr_str]
      by_cases q : p.1 = name
      · subst q
        simp only [decide_true, if_true]
        show (skey _, v) :: _ = (some p.1, v) :: _
        exact List.cons_eq_cons.mpr ⟨rfl, h2⟩
      · simp only [q, decide_false, Bool.false_eq_true, if_false]
        show (skey _, e.val) :: _ = (some p.1, p.2) :: _
        rw [hv]
        exact List.cons_eq_cons.mpr ⟨by rw [ht]; rfl, ih h2⟩
theorem Dct.len {fs : List (Str × Value)} {es : List DictEntry} (h : Dct fs es) : es.length = fs.length := by simpa using congrArg List.length h
noncomputable abbrev Cel.dct (fs : List (Str × Value)) : Cel := .prd fun o => ∃ es n, o = dictOf es n ∧ Dct fs es
noncomputable abbrev Cel.ins (C dx : Addr) : Cel := .obj (instObj C dx)
section
variable {w : World} {hb h : Heap} {L : Addr} {m : Str → Option Value} {own own' : List (Addr × Cel)} {A : Around} {E : Value → Shared → Prop} {hp : Heap} {g : Array GenState} {d : Drawn} {tk : Nat} {os : OsState}
theorem St.newsL (S : St hb h L m own) : ∀ l : List (Addr × Cel), (∀ p ∈ l, p ∈ own) → ∃ news, News hb L h news ∧ (∀ q ∈ news, ∃ p ∈ l, q.1 = p.1) ∧ (∀ p ∈ l, ∃ q ∈ news, q.1 = p.1) ∧ ∀ h' ex, News hb L h' (ex ++ news) → ∀ p ∈ l, p.2.At h' p.1 := by
  intro l
  induction l with
  | nil => exact fun _ => ⟨[], News.nil, fun q hq => absurd hq List.not_mem_nil, fun q hq => absurd hq List.not_mem_nil, fun h' ex N' p hp => absurd hp List.not_mem_nil⟩
  | cons q l ih =>
    intro hl
    obtain ⟨news, N, k0, k1, k⟩ := ih fun p hp => hl p (.tail _ hp)
    have hq := S.has q (hl q (.head _))
    obtain ⟨o, e⟩ := hq.1.live
    refine ⟨(q.1, o) :: news, fun p hp => ?_, fun r hr => ?_, fun p hp => ?_, fun h' ex N' p hp => ?_⟩
    · rcases List.mem_cons.mp hp with rfl | hp
      · exact ⟨e, S.neL (hl q (.head _)), hq.2.none⟩
      · exact N p hp
    · rcases List.mem_cons.mp hr with rfl | hr
      · exact ⟨q, .head _, rfl⟩
      · obtain ⟨p, hp, e⟩ := k0 r hr; exact ⟨p, .tail _ hp, e⟩
    · rcases List.mem_cons.mp hp with rfl | hp
      · exact ⟨_, .head _, rfl⟩
      · obtain ⟨r, hr, e⟩ := k1 p hp; exact ⟨r, .tail _ hr, e⟩
    · rcases List.mem_cons.mp hp with rfl | hp
      · exact hq.1.keep fun o' e' => by
          rw [e] at e'; cases e'
          exact (N' _ (List.mem_append_right _ (.head _))).1
      · exact k h' (ex ++ [(q.1, o)]) (by rw [List.append_assoc]; exact N') p hp
theorem St.newsAt (S : St hb h L m own) {dx : Addr} {c : Cel} {o : Obj} (hm : (dx, c) ∈ own) (ho : h.get? dx = some o) :
    ∃ post, News hb L h ((dx, o) :: post) ∧ (∀ p ∈ post, p.1 ≠ dx) ∧ ∀ h' o' own' c', PyProof.Rows.Fr hb L h' m → News hb L h' ((dx, o') :: post) → Sets dx c c' own own' → (∀ x, c' ≠ .ns x) → (h'.get? dx = some o' → c'.At h' dx) → St hb h' L m own' := by
  obtain ⟨post, N, k0, _, k⟩ := S.newsL (own.filter fun p => decide (p.1 ≠ dx)) fun p hp => (List.mem_filter.mp hp).1
  have ne : ∀ p ∈ post, p.1 ≠ dx := fun q hq => by
    obtain ⟨p, hp, e⟩ := k0 q hq
    rw [e]
    simpa using (List.mem_filter.mp hp).2
  have hcx := S.has _ hm
  refine ⟨post, fun p hp => ?_, ne, fun h' o' own' c' F' N' U hx hc => ?_⟩
  · rcases List.mem_cons.mp hp with rfl | hp
    · exact ⟨ho, S.neL hm, hcx.2.none⟩
    · exact N p hp
  · obtain ⟨i, h1, h2⟩ := U.ix
    have nd := S.nd
    have heq : own'.map (·.1) = own.map (·.1) := by
      rw [h2]
      apply List.ext_getElem?
      intro j
      rw [List.getElem?_map, List.getElem?_map, List.getElem?_set]
      by_cases q : i = j
      · subst q
        rw [h1]
        have hl := (List.getElem?_eq_some_iff.mp h1).1
        simp [hl]
      · simp [q]
    have hap : c'.Apart hb dx := by
      have hn := hcx.2.none
      cases c' with
      | ns x => exact absurd rfl (hx x)
      | _ => exact hn
    refine ⟨F'.keep, F'.ns, F'.above, fun p hp => ?_, by rw [heq]; exact nd⟩
    by_cases q : p.1 = dx
    · have hpm : (dx, c') ∈ own' := U.new
      have nd' : (own'.map (·.1)).Nodup := by rw [heq]; exact (List.nodup_cons.mp nd).2
      obtain ⟨a, c2⟩ := p
      have q' : a = dx := q
      subst q'
      have e := nodup_eq nd' hp hpm
      subst e
      exact ⟨hc (N' _ (.head _)).1, hap⟩
    · have hpo : p ∈ own := by
        rw [h2] at hp
        obtain ⟨j, hj⟩ := List.mem_iff_getElem?.mp hp
        rw [List.getElem?_set] at hj
        by_cases e : i = j
        · rw [if_pos e] at hj
          split at hj
          · cases hj; exact absurd rfl q
          · cases hj
        · rw [if_neg e] at hj
          exact List.mem_of_getElem? hj
      exact ⟨k h' [(dx, o')] N' p (List.mem_filter.mpr ⟨hpo, by simpa using q⟩), (S.has p hpo).2⟩
variable {x dx C : Addr} {fs : List (Str × Value)} {name : Str} {v : Value}
/-- self.name = v -/
theorem setA {Q : Unit → Shared → Prop} (B : Bs w hb) (S : St hb hp L m own) (hx : (x, .ins C dx) ∈ own) (U : Sets dx (.dct fs) (.dct (putF name v fs)) own own') (hz : fs.length ≤ 100)
    (h : ∀ h' tk', St hb h' L m own' → Q () ⟨h', g, d, tk', os⟩)
    (hs : findIn (KK w.params) (.ref C) "__setattr__" = some (some (.builtin "object.__setattr__")) := by rfl) (hpo : plainOver (KK w.params) C = true := by rfl) (ht : takerIn (KK w.params) C name = some none := by rfl) (hh : hasDictIn (KK w.params) C = true := by rfl) :
    wpAny (model PG w) A (setAttr (.ref x) name v) Q E ⟨hp, g, d, tk, os⟩ := by
  obtain ⟨o, ho, es, n, rfl, hD⟩ := S.mem U.old
  obtain ⟨post, N, ne, k⟩ := S.newsAt U.old ho
  refine set_dict (ox := instObj C dx) S.Fr B.X N ⟨S.mem hx, rfl, rfl, ho⟩ rfl hs hpo ht hh (by rw [hD.get]; rfl) rfl (.head ne) ?_ fun h' F' N' => h _ _ (k h' _ _ _ F' N' U (by intro x e; cases e) fun e => ⟨_, e, _, _, rfl, hD.put ..⟩)
  rw [(hD.put name (PyData.keyHash w.params name) (tk + 1) v).len]
  have : ∀ l : List (Str × Value), (putF name v l).length ≤ l.length + 1 := by
    intro l
    induction l with
    | nil => exact Nat.le_refl _
    | cons p r ih =>
      unfold putF
      split
      · simp
      · simp only [List.length_cons]; omega
  exact Nat.le_trans (this fs) (by omega)
/-- self.name for a field -/
theorem getA {Q : Value → Shared → Prop} {expr : Bool} (B : Bs w hb) (S : St hb hp L m own) (hx : (x, .ins C dx) ∈ own) (hd : (dx, .dct fs) ∈ own) (hl : fs.lookup name = some v) (hv : handedIn v = true)
    (h : ∀ tk', Q v ⟨hp, g, d, tk', os⟩)
    (hg : plainGet (KK w.params) C name = true := by rfl) (hh : hasDictIn (KK w.params) C = true := by rfl) (ha : findIn (KK w.params) (.ref C) name = some none := by rfl) :
    wpAny (model PG w) A (getAttr (.ref x) name expr) Q E ⟨hp, g, d, tk, os⟩ := by
  obtain ⟨o, ho, es, n, rfl, hD⟩ := S.mem hd
  exact get_own (ox := instObj C dx) S.Fr B.X ⟨S.mem hx, rfl, rfl, ho⟩ hg hh ha rfl (by rw [hD.get, hl]) hv (h _)
/-- self.name as a method -/
theorem mthA {Q : Value × List Value → Shared → Prop} {pl : Sem Bool} {f : Addr} (B : Bs w hb) (S : St hb hp L m own) (hx : (x, .ins C dx) ∈ own) (hd : (dx, .dct fs) ∈ own) (hl : fs.lookup name = none) (hf : findIn (KK w.params) (.ref C) name = some (some (.ref f)))
    (h : Q (.ref f, [.ref x]) ⟨hp, g, d, tk, os⟩)
    (hg : plainGet (KK w.params) C name = true := by rfl) (ht : isFn (KK w.params) (.ref f) = true := by rfl) :
    wpAny (model PG w) A (getMethod (.ref x) name pl) Q E ⟨hp, g, d, tk, os⟩ := by
  obtain ⟨o, ho, es, n, rfl, hD⟩ := S.mem hd
  exact method_inst (ox := instObj C dx) S.Fr B.X ⟨S.mem hx, rfl, rfl, ho⟩ hg hf ht (by rw [hD.get, hl]) h
/-- C(args): the object made, its __init__ to be called -/
theorem makeA {R : Result → Shared → Prop} {rest : List Value} {fI : Addr} (B : Bs w hb) (S : St hb hp L m own)
    (h : ∀ x dx h', St hb h' L m ((x, .ins C dx) :: (dx, .dct []) :: own) → codeAny (model PG w) (A.under (.builtin "type.__call__" ⟨.ref C :: rest, []⟩)) (.call (.ref fI) ⟨.ref x :: rest, []⟩) (InitBack x R) ⟨h', g, d, tk, os⟩)
    (hm : makesIn (KK w.params) C = true := by rfl) (hi : findIn (KK w.params) (.ref C) "__init__" = some (some (.ref fI)) := by rfl) (hf : typeIn (KK w.params) (.ref fI) = some (.type "function") := by rfl) :
    codeAny (model PG w) A (.call (.ref C) ⟨rest, []⟩) R ⟨hp, g, d, tk, os⟩ := by
  obtain ⟨news, N, k0, k1, k⟩ := S.newsL own fun _ hp => hp
  refine make_K S.Fr N (B.X.keeps S.keep) hm hi hf fun x dx h' F' N' h1 h2 => h x dx h' ?_
  have n1 := N' _ (.head _)
  have n2 := N' _ (.tail _ (.head _))
  have S1 : St hb h' L m own := ⟨F'.keep, F'.ns, F'.above, fun p hp => ⟨k h' [_, _] N' p hp, (S.has p hp).2⟩, S.nd⟩
  have lt : ∀ p ∈ own, p.1 < dx := fun p hp => by
    obtain ⟨q, hq, e⟩ := k1 p hp
    rw [← e]; exact h1 q hq
  have S2 : St hb h' L m ((dx, .dct []) :: own) := S1.add (c := .dct []) ⟨_, n2.1, [], 0, rfl, rfl⟩ n2.2.2 fun q => by
    rcases List.mem_cons.mp q with e | q
    · exact n2.2.1 e
    · obtain ⟨p, hp, e⟩ := List.mem_map.mp q
      exact absurd (lt p hp) (by rw [e]; exact Nat.lt_irrefl _)
  refine S2.add (c := .ins C dx) n1.1 n1.2.2 fun q => ?_
  rcases List.mem_cons.mp q with e | q
  · exact n1.2.1 e
  · rcases List.mem_cons.mp q with e | q
    · exact absurd h2 (by rw [show x = dx from e]; exact Nat.lt_irrefl _)
    · obtain ⟨p, hp, e⟩ := List.mem_map.mp q
      exact absurd (lt p hp) (by rw [e]; exact Nat.not_lt.mpr (Nat.le_of_lt h2))
end
section
variable {w : World} {hb h : Heap} {L : Addr} {m : Str → Option Value} {own own' : List (Addr × Cel)} {A : Around} {E : Value → Shared → Prop} {hp : Heap} {g : Array GenState} {d : Drawn} {tk : Nat} {os : OsState} {prog : Program}
noncomputable abbrev Cel.sit (a : List Nat) (t : Tok) (i : Nat) : Cel := .prd fun o => o.cls = .type "str_ascii_iterator" ∧ o.data = .fields #[.str (st a) t, .int (i : Int) 0]
theorem iterS {a : List Nat} {t : Tok} {Q : Value → Shared → Prop} (S : St hb hp L m own) (ha : a.all (· < 128) = true) (h : ∀ h' I, St hb h' L m ((I, .sit a t 0) :: own) → Q (.ref I) ⟨h', g, d, tk, os⟩) :
    wpAny (model prog w) A (pyIter (.str (st a) t)) Q E ⟨hp, g, d, tk, os⟩ :=
  wpAny_pyIter_ascii (by simpa [st] using ha) (h _ _ (S.push _ ⟨_, Heap.get?_push_size _ rfl, rfl, rfl⟩))
theorem nextS {a : List Nat} {t : Tok} {I : Addr} {i c : Nat} {Q : Option Value → Shared → Prop} (S : St hb hp L m own) (U : Sets I (.sit a t i) (.sit a t (i + 1)) own own') (hc : a[i]? = some c) (h : ∀ h' t' tk', St hb h' L m own' → Q (some (.str (st [c]) t')) ⟨h', g, d, tk', os⟩) :
    wpAny (model prog w) A (pyNext (.ref I)) Q E ⟨hp, g, d, tk, os⟩ :=
  wpAny_pyNext_ascii_item (S.mem U.old) (by simpa [st] using hc) fun h' hi hs => h h' _ _ (S.sets U hs hi)
theorem endS {a : List Nat} {t : Tok} {I : Addr} {i : Nat} {Q : Option Value → Shared → Prop} (hh : A.handled = none) (S : St hb hp L m own) (U : Gone I (.sit a t i) own own') (hc : a[i]? = none) (h : ∀ h', St hb h' L m own' → Q none ⟨h', g, d, tk, os⟩) :
    wpAny (model prog w) A (pyNext (.ref I)) Q E ⟨hp, g, d, tk, os⟩ :=
  wpAny_pyNext_ascii_end hh (S.mem U.old) (by simpa [st] using hc) fun h' hx => h h' (S.gone U hx)
/-- a for over a text's signs -/
theorem forS_inv {env : Env} {R : Result → Shared → Prop} {x : Str} {px : Pos} {body : List Stmt} {a : List Nat} {ta : Tok} (P : Nat → (Str → Option Value) → List (Addr × Cel) → Prop) (hA : A.handled = none)
    (turn : ∀ i c h tk t m own J (RL : Flow → Shared → Prop), (∀ f s₃, (match f with
            | .next | .cont => ∃ h' tk' m' own', s₃ = ⟨h', g, d, tk', os⟩ ∧ St hb h' env.locals m' ((J, .sit a ta (i + 1)) :: own') ∧ P (i + 1) m' own'
            | .brk => R (.ok .next) s₃
            | .ret v => R (.ok (.ret v)) s₃) → RL f s₃) → a[i]? = some c → P i m own → St hb h env.locals (fun y => if y = x then some (.str (st [c]) t) else m y) ((J, .sit a ta (i + 1)) :: own) →
      wpAny (model PG w) A (execs body env) RL NoE ⟨h, g, d, tk, os⟩)
    (fin : ∀ h tk m own, St hb h env.locals m own → P a.length m own → R (.ok .next) ⟨h, g, d, tk, os⟩)
    {i : Nat} {h : Heap} {tk : Nat} {m : Str → Option Value} {own : List (Addr × Cel)} {J : Addr} (S : St hb h env.locals m ((J, .sit a ta i) :: own)) (h0 : P i m own) (hi : i ≤ a.length)
    (hk : env.scope.kind = .function := by rfl) (hl : env.kindOf x = some .local := by rfl) : codeAny (model PG w) A (.forLoop (.Name x px) (.ref J) body [] env) R ⟨h, g, d, tk, os⟩ := by
  induction hn : a.length - i generalizing i h tk m own with
  | zero =>
    have e : i = a.length := by (first | lia | omega)
    subst e
    refine for1 (endS hA S .head (by simp) fun h' S' => ?_)
    exact wpAny_execs_nil (fin _ _ _ _ S' h0)
  | succ n ih =>
    have hlt : i < a.length := by (first | lia | omega)
    refine for1 (nextS S .head (List.getElem?_eq_getElem hlt) fun h' t' tk' S' => ?_)
    refine wpAny_assign_Name (stN S' (fun h2 tk2 S2 => ?_) hk hl)
    refine wpAny_mono (turn i _ h2 tk2 t' m own J _ (fun _ _ x => x) (List.getElem?_eq_getElem hlt) h0 S2) (fun f s₃ h₃ => ?_) fun _ _ x => x
    cases f with
    | next => obtain ⟨h', tk', m', own', rfl, S3, hp⟩ := h₃; exact ih S3 hp (by (first | lia | omega)) (by (first | lia | omega))
    | cont => obtain ⟨h', tk', m', own', rfl, S3, hp⟩ := h₃; exact ih S3 hp (by (first | lia | omega)) (by (first | lia | omega))
    | brk => exact h₃
    | ret v => exact h₃
noncomputable abbrev Cel.rgi (x left : Int) : Cel := .prd fun o => o = { cls := .type "range_iterator", data := .fields #[rawInt x, rawInt left, rawInt 1] }
noncomputable abbrev Cel.rng (a b : Int) : Cel := .prd fun o => ∃ t u v, o = { cls := .type "range", data := .fields #[.int a t, .int b u, .int 1 v] }
theorem rng2 {a b : Int} {t u : Tok} {Q : Value → Shared → Prop} (S : St hb hp L m own) (h : ∀ h' tk' r, St hb h' L m ((r, .rng a b) :: own) → Q (.ref r) ⟨h', g, d, tk', os⟩) :
    wpAny (model prog w) A (call (.type "range") [.int a t, .int b u]) Q E ⟨hp, g, d, tk, os⟩ :=
  call_range_2 (h _ _ _ (S.push _ ⟨_, Heap.get?_push_size _ rfl, _, _, _, rfl⟩))
theorem rng1 {b : Int} {u : Tok} {Q : Value → Shared → Prop} (S : St hb hp L m own) (h : ∀ h' tk' r, St hb h' L m ((r, .rng 0 b) :: own) → Q (.ref r) ⟨h', g, d, tk', os⟩) :
    wpAny (model prog w) A (call (.type "range") [.int b u]) Q E ⟨hp, g, d, tk, os⟩ :=
  call_range_1 (h _ _ _ (S.push _ ⟨_, Heap.get?_push_size _ rfl, _, _, _, rfl⟩))
theorem iterG {a b : Int} {r : Addr} {Q : Value → Shared → Prop} (S : St hb hp L m own) (hr : (r, .rng a b) ∈ own) (ha : a.natAbs < 1000000) (hb' : b.natAbs < 1000000) (h : ∀ h' I, St hb h' L m ((I, .rgi a (if a < b then b - a else 0)) :: own) → Q (.ref I) ⟨h', g, d, tk, os⟩) :
    wpAny (model prog w) A (pyIter (.ref r)) Q E ⟨hp, g, d, tk, os⟩ := by
  obtain ⟨o, ho, t, u, v, rfl⟩ := S.mem hr
  have e : Builtin.Range.rangeSize a b 1 = if a < b then b - a else 0 := by
    unfold Builtin.Range.rangeSize
    simp only [show (1 : Int) > 0 by decide, if_true]
    split <;> (first | lia | omega)
  exact wpAny_pyIter_range ho (small_one (by (first | lia | omega)) (by (first | lia | omega)) (by (first | lia | omega)) (by (first | lia | omega))) (h _ _ (S.push _ ⟨_, Heap.get?_push_size _ rfl, by rw [e]⟩))
theorem nextG {x left : Int} {I : Addr} {Q : Option Value → Shared → Prop} (S : St hb hp L m own) (U : Sets I (.rgi x left) (.rgi (x + 1) (left - 1)) own own') (hl : 0 < left) (h : ∀ h' t' tk', St hb h' L m own' → Q (some (.int x t')) ⟨h', g, d, tk', os⟩) :
    wpAny (model prog w) A (pyNext (.ref I)) Q E ⟨hp, g, d, tk, os⟩ := by
  obtain ⟨o, ho, rfl⟩ := S.mem U.old
  exact wpAny_pyNext_range_item ho hl fun h' hi hs => h h' _ _ (S.sets U hs ⟨_, hi, rfl⟩)
theorem endG {x left : Int} {I : Addr} {Q : Option Value → Shared → Prop} (hh : A.handled = none) (S : St hb hp L m own) (U : Gone I (.rgi x left) own own') (hl : left ≤ 0) (h : ∀ h', St hb h' L m own' → Q none ⟨h', g, d, tk, os⟩) :
    wpAny (model prog w) A (pyNext (.ref I)) Q E ⟨hp, g, d, tk, os⟩ := by
  obtain ⟨o, ho, rfl⟩ := S.mem U.old
  exact wpAny_pyNext_range_end hh ho hl fun h' hx => h h' (S.gone U hx)
theorem tupL {l : Addr} {vs : List Value} {Q : Value → Shared → Prop} (S : St hb hp L m own) (hl : (l, .lst vs) ∈ own) (hz : vs.length ≤ 1000000) (h : ∀ h' a, St hb h' L m ((a, .obj (tupO vs)) :: own) → Q (.ref a) ⟨h', g, d, tk, os⟩) :
    wpAny (model prog w) A (call (.type "tuple") [.ref l]) Q E ⟨hp, g, d, tk, os⟩ :=
  call_tuple_list (lst_isList (S.mem hl)) (fun h1 hk => h _ _ ((S.ext hk).push _ (Heap.get?_push_size _ rfl))) (by
    have z : sizeLine = 16777216 := by decide
    simp
    (first | lia | omega))
end
section
variable {w : World} {hb h : Heap} {L : Addr} {m : Str → Option Value} {own own' : List (Addr × Cel)} {A : Around} {E : Value → Shared → Prop} {hp : Heap} {g : Array GenState} {d : Drawn} {tk : Nat} {os : OsState} {prog : Program}
theorem lenT {l : Addr} {vs : List Value} {Q : Value → Shared → Prop} (S : St hb hp L m own) (hl : (l, .obj (tupO vs)) ∈ own) (hz : vs.length ≤ 1000000) (h : ∀ t tk', Q (.int (vs.length : Nat) t) ⟨hp, g, d, tk', os⟩) :
    wpAny (model prog w) A (call (.builtin "len") [.ref l]) Q E ⟨hp, g, d, tk, os⟩ :=
  len_tuple (items := vs.toArray) ⟨_, S.mem hl, rfl, 0, rfl⟩ (by simp; (first | lia | omega)) (by simpa using h _ _)
theorem subT {value slice : Expr} {l : Addr} {k : Int} {u : Tok} {v : Value} {vs : List Value} {Q : Value → Shared → Prop} {s : Shared} (S : St hb s.heap L m own) (hm : (l, .obj (tupO vs)) ∈ own) (h0 : 0 ≤ k) (hhi : k < 1000000) (hx : vs[k.toNat]? = some v) (h : Q v s)
    (hs : subscripted slice false (.ref l) (.int k u) = operate [.ref l, .int k u] (getItem (.ref l) (.int k u)) := by with_unfolding_all rfl) (hg : ∀ r, letTemporaryGo value (.ref l) r = pure () := by intro _; with_unfolding_all rfl) :
    wpAny (model prog w) A (subscriptTail value slice (.ref l) (.int k u)) Q E s :=
  item_tuple (items := vs.toArray) (j := k.toNat) ⟨_, S.mem hm, rfl, 0, rfl⟩ (by (first | lia | omega)) (by (first | lia | omega)) (by
    have hlt := (List.getElem?_eq_some_iff.mp hx).1
    unfold seqIndex?
    simp
    (first | lia | omega)) (by simpa using hx) h hs hg
theorem clsA {C : Addr} {mc a : Value} {name : Str} {expr : Bool} {Q : Value → Shared → Prop} (B : Bs w hb) (S : St hb hp L m own) (hm : typeIn (KK w.params) (.ref C) = some mc) (hr : readsIn (KK w.params) C mc = true) (e : findCls (KK w.params) (.ref C) mc name = some (.val a)) (hh : handedIn a = true)
    (h : ∀ tk', Q a ⟨hp, g, d, tk', os⟩) : wpAny (model PG w) A (getAttr (.ref C) name expr) Q E ⟨hp, g, d, tk, os⟩ := cls_val S.Fr B.X hm hr e hh (h _)
theorem swp2 {a b : Str} {T : Addr} {x y : Value} {env : Env} {Q : Shared → Prop} (hh : A.handled = none) (S : St hb hp env.locals m own) (ht : (T, .obj (tupO [x, y])) ∈ own)
    (h : ∀ h' tk', St hb h' env.locals (fun z => if z = a then some x else if z = b then some y else m z) own → Q ⟨h', g, d, tk', os⟩)
    (hk : env.scope.kind = .function := by rfl) (ha : env.kindOf a = some .local := by rfl) (hb' : env.kindOf b = some .local := by rfl) :
    wpAny (model prog w) A (unpackItems (.ref T) [a, b].length none) (fun items s₂ => wpAny (model prog w) A (assignInOrder ([a, b].reverse.map fun n => bindName env n) items.reverse) (fun _ => Q) E s₂) E ⟨hp, g, d, tk, os⟩ := by
  refine unpackItems_tuple (items := #[x, y]) hh ⟨_, S.mem ht, rfl, 0, rfl⟩ fun h₁ he₁ => ?_
  show wpAny _ _ (assignInOrder [bindName env b, bindName env a] [y, x]) _ _ _
  refine assignInOrder_cons ?_
  refine wpAny_bindName (stN (S.extNew he₁) (fun h2 tk2 S2 => ?_) hk hb')
  refine assignInOrder_cons ?_
  refine wpAny_bindName (stN S2 (fun h3 tk3 S3 => ?_) hk ha)
  refine assignInOrder_nil ?_
  exact h h3 _ S3
end
noncomputable def bump (cnt : List Nat) (b : Nat) : List Nat :=
  let c := cnt ++ List.replicate (b + 1 - cnt.length) 0
  c.set b (c.getD b 0 + 1)
noncomputable def wsStep (s : List Nat × Nat × Nat) (c : Nat) : List Nat × Nat × Nat := if c = 32 then (s.1, s.2.1 + 1, s.2.2) else (bump s.1 s.2.1, 0, s.2.2 + 1)
noncomputable def wsF (a : List Nat) : List Nat × Nat × Nat := a.foldl wsStep ([], 0, 0)
theorem bump_get {cv : List Value} {c : List Nat} {b : Nat} (h : cv.map ival = c.map (fun x => some ((x : Nat) : Int))) (hb : b < c.length) : ∃ t, cv[b]? = some (.int ((c.getD b 0 : Nat) : Int) t) :=
  map_ival (ks := c.map fun x => ((x : Nat) : Int)) (by rw [h, List.map_map]; rfl) b _ (by rw [List.getElem?_map, List.getD_eq_getElem?_getD, List.getElem?_eq_getElem hb]; rfl)
theorem bump_set {cv : List Value} {c : List Nat} {b : Nat} {t : Tok} (h : cv.map ival = c.map (fun x => some ((x : Nat) : Int))) : (cv.set b (.int ((c.getD b 0 : Nat) + 1) t)).map ival = (c.set b (c.getD b 0 + 1)).map (fun x => some ((x : Nat) : Int)) := by
  rw [List.map_set, h, List.map_set]
  rfl
theorem St.lit0 {hb h : Heap} {L l : Addr} {m : Str → Option Value} {own : List (Addr × Cel)} {cv : List Value} {n : Nat} {t : Tok} (S : St hb h L m ((l, .lst (cv ++ List.replicate n (.int 0 t))) :: own)) : ∃ t0, St hb h L m ((l, .lst (cv ++ List.replicate n (.int 0 t0))) :: own) := ⟨t, S⟩
theorem St.flip {hb h : Heap} {L : Addr} {m : Str → Option Value} {own : List (Addr × Cel)} {p q : Addr × Cel} (S : St hb h L m (p :: q :: own)) : St hb h L m (q :: p :: own) := by
  refine ⟨S.keep, S.fr, S.above, fun r hr => ?_, ?_⟩
  · rcases List.mem_cons.mp hr with rfl | hr
    · exact S.has _ (.tail _ (.head _))
    · rcases List.mem_cons.mp hr with rfl | hr
      · exact S.has _ (.head _)
      · exact S.has _ (.tail _ (.tail _ hr))
  · have nd := S.nd
    simp only [List.map_cons, List.nodup_cons, List.mem_cons, not_or] at nd ⊢
    exact ⟨⟨nd.1.2.1, nd.1.1, nd.1.2.2⟩, ⟨fun e => nd.2.1.1 e.symm, nd.2.2.1⟩, nd.2.1.2, nd.2.2.2⟩
theorem St.leaveP {hb h : Heap} {L L' : Addr} {m m' : Str → Option Value} {own : List (Addr × Cel)} (pre : List (Addr × Cel)) (S : St hb h L' m' (pre ++ (L, .ns m) :: own)) : St hb h L m (pre ++ own) := by
  have h2 := S.has _ (List.mem_append_right pre (.head _))
  refine ⟨S.keep, h2.1, h2.2, fun q hq => S.has q ?_, ?_⟩
  · rcases List.mem_append.mp hq with hq | hq
    · exact List.mem_append_left _ hq
    · exact List.mem_append_right _ (.tail _ hq)
  · have nd := (List.nodup_cons.mp S.nd).2
    rw [List.map_append, List.map_cons] at nd
    rw [List.map_append]
    exact List.perm_middle.nodup_iff.mp nd
theorem weight_mk (C : Addr) (rest : List Value) : Code.weight (.builtin "type.__call__" ⟨.ref C :: rest, []⟩) ≤ 2 := by
  have h1 : Code.frames (.builtin "type.__call__" ⟨.ref C :: rest, []⟩) = 0 := by rfl
  have h2 : Code.isGuard (.builtin "type.__call__" ⟨.ref C :: rest, []⟩) = false := by
    show guardIds.contains "type.__call__" = false
    decide +kernel
  have h3 : Code.isCaller (.builtin "type.__call__" ⟨.ref C :: rest, []⟩) = false := by rfl
  unfold Code.weight
  rw [h1, h2, h3]
  split <;> simp
theorem ws_init {w : World} {hb : Heap} {L : Addr} {m : Str → Option Value} {own : List (Addr × Cel)} {A : Around} {hp : Heap} {g : Array GenState} {d : Drawn} {tk : Nat} {os : OsState} {R : Result → Shared → Prop} (B : Bs w hb)
    {x dx : Addr} {a : List Nat} {tw : Tok} (S : St hb hp L m ((x, .ins 83 dx) :: (dx, .dct []) :: own)) (hr : A.depth + 20 < recursionLimit) (hA : A.handled = none) (ha : ∀ c ∈ a, c = 32 ∨ c = 9) (hz : a.length ≤ 10000)
    (hQ : ∀ h' tk' fs tn tc cv t1 t2, fs.lookup ("nt" : Str) = some (.int ((wsF a).2.2 : Nat) t1) → fs.lookup ("norm" : Str) = some (.ref tn) → fs.lookup ("indent_level" : Str) = none → cv.map ival = (wsF a).1.map (fun x => some ((x : Nat) : Int)) →
      St hb h' L m ((tn, .obj (tupO [.ref tc, .int ((wsF a).2.1 : Nat) t2])) :: (tc, .obj (tupO cv)) :: (x, .ins 83 dx) :: (dx, .dct fs) :: own) → R (.ok (.ret .none)) ⟨h', g, d, tk', os⟩) :
    codeAny (model PG w) A (.call (.ref 38) ⟨[.ref x, .str (st (a ++ [120, 9, 32])) tw], []⟩) R ⟨hp, g, d, tk, os⟩ := by
  refine callK (binds := [("self", .ref x), ("ws", .str (st (a ++ [120, 9, 32])) tw)]) B S (by rfl) (by rfl) (by omega) (.of_eq rfl) (by rfl) (fun h1 L1 tk1 S => genR fun RF hRF => ?_)
  walk_at "ww"
  refine Assign_Tuple_swapped (names := ["S", "T"]) ?_
  walk_at "ww"
  refine clsA (a := .str (st [32]) _) B S (by rfl) (by rfl) (by rfl) (by rfl) ?_
  intro tk
  walk_at "ww"
  refine clsA (a := .str (st [9]) _) B S (by rfl) (by rfl) (by rfl) (by rfl) ?_
  intro tk
  walk_at "ww"
  refine swp2 (by exact hA) S (by walk_at "mem") ?_
  intro h tk S
  walk_at "ww"
  obtain ⟨raw, hraw⟩ : ∃ raw : Value, raw = .str (st (a ++ [120, 9, 32])) t := ⟨_, rfl⟩
  refine iterS (S.sub (own' := (l, Cel.lst []) :: (L, Cel.ns m) :: (x, .ins 83 dx) :: (dx, .dct (putF "raw" (.str (st (a ++ [120, 9, 32])) tw) [])) :: own) (by walk_at "sl")) ?_ ?_
  · rw [List.all_append, Bool.and_eq_true]
    refine ⟨List.all_eq_true.mpr fun c hc => ?_, by decide⟩
    rcases ha c hc with rfl | rfl <;> decide
  intro h I S
  refine forS_inv (x := "ch") (fun i m' own' => i ≤ a.length ∧ ∃ lc cv cnt b nt, ∃ n : Nat, ∃ t1 t2 t3, own' = (lc, Cel.lst cv) :: (L, Cel.ns m) :: (x, .ins 83 dx) :: (dx, .dct (putF "raw" (.str (st (a ++ [120, 9, 32])) tw) [])) :: own ∧
      m' "S" = some (.str (st [32]) 209) ∧ m' "T" = some (.str (st [9]) 210) ∧ m' "self" = some (.ref x) ∧ m' "count" = some (.ref lc) ∧ m' "b" = some (.int (b : Nat) t1) ∧ m' "n" = some (.int (n : Nat) t2) ∧ m' "nt" = some (.int (nt : Nat) t3) ∧
      cv.map ival = cnt.map (fun x => some ((x : Nat) : Int)) ∧ wsF (a.take i) = (cnt, b, nt) ∧ cnt.length ≤ i ∧ b ≤ i ∧ nt ≤ i) (by exact hA) ?_ ?_ (i := 0) S ?_ (Nat.zero_le _)
  · intro i c h tk t m' own' J RL hRL hc hI0 S
    refine exE9 hI0.2 fun lc cv cnt b nt n t1 t2 t3 hI1 => anE13 hI1 fun e1 mS mT mself mc mb mn mnt hcv hws k1 k2 k3 => ?_
    have hi := hI0.1
    clear hI0 hI1
    subst e1
    have hcl : cv.length = cnt.length := by simpa using congrArg List.length hcv
    by_cases hia : i < a.length
    · have hca : c ∈ a := by
        rw [List.getElem?_append_left hia] at hc
        exact List.mem_of_getElem? hc
      have hws' : wsF (a.take (i + 1)) = wsStep (cnt, b, nt) c := by
        rw [List.getElem?_append_left hia] at hc
        unfold wsF at hws ⊢
        rw [List.take_add_one, hc, List.foldl_append, hws]
        rfl
      rcases ha c hca with rfl | rfl
      · walk_at "ww"
        refine exI4 _ _ _ _ ⟨rfl, S, by omega, exI9 lc cv (cnt) (b + 1) (nt) (n + 1) _ _ _ ⟨rfl, by walk_at "lk", by walk_at "lk", by walk_at "lk", by walk_at "lk", by walk_at "lk", by walk_at "lk", by walk_at "lk", hcv, hws', by omega, by omega, by omega⟩⟩
      · walk_at "ww"
        have hstep : wsStep (cnt, b, nt) 9 = (bump cnt b, 0, nt + 1) := rfl
        rw [hstep] at hws'
        refine if_s (fun hlb => ?_) (fun hlb => ?_)
        · have hlb : cv.length ≤ b := by simpa using hlb
          walk_at "ww"
          rw [show ((b : Int) - (cv.length : Nat) + 1).toNat = b + 1 - cnt.length by omega] at S
          obtain ⟨t0, S⟩ := S.lit0
          have hcv1 : (cv ++ List.replicate (b + 1 - cnt.length) (Value.int 0 t0)).map ival = (cnt ++ List.replicate (b + 1 - cnt.length) 0).map (fun x => some ((x : Nat) : Int)) := by
            rw [List.map_append, List.map_append, hcv, List.map_replicate, List.map_replicate]; rfl
          obtain ⟨cv1, hcv1e⟩ : ∃ cv1, cv1 = cv ++ List.replicate (b + 1 - cnt.length) (Value.int 0 t0) := ⟨_, rfl⟩
          rw [← hcv1e] at hcv1 S
          have hc1l : cv1.length = b + 1 := by rw [hcv1e, List.length_append, List.length_replicate]; omega
          have hcnl : (cnt ++ List.replicate (b + 1 - cnt.length) 0).length = b + 1 := by rw [List.length_append, List.length_replicate]; omega
          clear hcv1e
          obtain ⟨t4, hg⟩ := bump_get hcv1 (b := b) (by omega)
          walk_at "ww"
          refine subL (by assumption) (by walk_at "mem") (by omega) (by omega) (by rw [Int.toNat_natCast]; exact hg) ?_
          walk_at "ww"
          refine setL (by assumption) (by walk_at "set") (by omega) (by omega) (by omega) ?_
          intro h S
          walk_at "ww"
          refine exI4 _ _ _ _ ⟨rfl, St.flip (S.sub (by walk_at "sl")), by omega, exI9 l _ (bump cnt b) (0) (nt + 1) (n + 1) _ _ _ ⟨rfl, by walk_at "lk", by walk_at "lk", by walk_at "lk", by walk_at "lk", by walk_at "lk", by walk_at "lk", by walk_at "lk", ?_, hws', ?_, by omega, by omega⟩⟩
          · rw [Int.toNat_natCast]
            exact bump_set hcv1
          · unfold bump
            rw [List.length_set]; omega
        · have hlb : ¬ cv.length ≤ b := by simpa using hlb
          walk_at "ww"
          obtain ⟨t4, hg⟩ := bump_get hcv (b := b) (by omega)
          refine subL (by assumption) (by walk_at "mem") (by omega) (by omega) (by rw [Int.toNat_natCast]; exact hg) ?_
          walk_at "ww"
          refine setL (by assumption) (by walk_at "set") (by omega) (by omega) (by omega) ?_
          intro h S
          walk_at "ww"
          have hbump : bump cnt b = cnt.set b (cnt.getD b 0 + 1) := by
            unfold bump
            rw [show b + 1 - cnt.length = 0 by omega, List.replicate_zero, List.append_nil]
          refine exI4 _ _ _ _ ⟨rfl, S, by omega, exI9 lc _ (bump cnt b) (0) (nt + 1) (n + 1) _ _ _ ⟨rfl, by walk_at "lk", by walk_at "lk", by walk_at "lk", by walk_at "lk", by walk_at "lk", by walk_at "lk", by walk_at "lk", ?_, hws', ?_, by omega, by omega⟩⟩
          · rw [hbump, Int.toNat_natCast]
            exact bump_set hcv
          · rw [hbump, List.length_set]; omega
    · have hie : i = a.length := by omega
      have hc120 : c = 120 := by
        rw [List.getElem?_append_right (by omega), hie, Nat.sub_self] at hc
        exact (Option.some.inj hc).symm
      subst hc120
      rw [hie, List.take_length] at hws
      walk_at "ww"
      refine hQ _ _ _ _ _ cv t3 t1 ?_ ?_ ?_ ?_ (St.leaveP [_, _] (S.sub (own' := (l, Cel.obj (tupO [_, .int ((wsF a).2.1 : Nat) t1])) :: (_, Cel.obj (tupO cv)) :: (L, Cel.ns m) :: (x, .ins 83 dx) :: (dx, .dct _) :: own) (by rw [hws]; walk_at "sl")))
      · rw [hws]; rfl
      · rfl
      · rfl
      · rw [hws]; exact hcv
  · rintro h tk m' own' S ⟨hi, _⟩
    rw [List.length_append] at hi
    exact absurd hi (by simp)
  · exact ⟨Nat.zero_le _, exI9 l [] [] 0 0 0 _ _ _ ⟨rfl, by walk_at "lk", by walk_at "lk", by walk_at "lk", by walk_at "lk", by walk_at "lk", by walk_at "lk", by walk_at "lk", rfl, rfl, Nat.le_refl _, Nat.le_refl _, Nat.le_refl _⟩⟩
theorem nanny_spec {w : World} {hb : Heap} {L : Addr} {m : Str → Option Value} {own : List (Addr × Cel)} {A : Around} {E : Value → Shared → Prop} {hp : Heap} {g : Array GenState} {d : Drawn} {tk : Nat} {os : OsState} {Q : Value → Shared → Prop} (B : Bs w hb) (S : St hb hp L m own)
    {a : List Nat} {t : Tok} (hz : a.length ≤ 10000) (ha : ∀ c ∈ a, c = 32 ∨ c = 9) (hr : A.depth + 30 < recursionLimit) (hA : A.handled = none)
    (hQ : ∀ h' tk' x dx fs tn tc cv t1 t2, fs.lookup ("nt" : Str) = some (.int ((wsF a).2.2 : Nat) t1) → fs.lookup ("norm" : Str) = some (.ref tn) → fs.lookup ("indent_level" : Str) = none → cv.map ival = (wsF a).1.map (fun x => some ((x : Nat) : Int)) →
      St hb h' L m ((tn, .obj (tupO [.ref tc, .int ((wsF a).2.1 : Nat) t2])) :: (tc, .obj (tupO cv)) :: (x, .ins 83 dx) :: (dx, .dct fs) :: own) → Q (.ref x) ⟨h', g, d, tk', os⟩) :
    wpAny (model PG w) A (PySem.call (.ref 220) [.str (st a) t]) Q E ⟨hp, g, d, tk, os⟩ := by
  refine wpAny_call ?_
  refine callK (binds := [("lead", .str (st a) t)]) B S (by rfl) (by rfl) (by omega) (.of_eq rfl) (by rfl) (fun h1 L1 tk1 S => genR fun RF hRF => ?_)
  walk_at "ww"
  refine wpAny_call ?_
  refine makeA B S ?_
  intro x dx h S
  refine ws_init B S (by
    have := weight_mk 83 [.str (st (a ++ [120, 9, 32])) t]
    show A.depth + 1 + Code.weight _ + 20 < _
    omega) (by exact hA) ha (by omega) ?_
  intro h tk fs tn tc cv t1 t2 f1 f2 f3 f4 S
  refine ⟨rfl, ?_⟩
  refine hRv _ _ (hRF _ _ ?_)
  exact hQ _ _ _ _ _ _ _ _ _ _ f1 f2 f3 f4 (St.leaveP [_, _, _, _] S)
theorem forG_inv {w : World} {hb : Heap} {A : Around} {env : Env} {R : Result → Shared → Prop} {g : Array GenState} {d : Drawn} {os : OsState} {x : Str} {px : Pos} {body : List Stmt} (e : Int) (P : Int → (Str → Option Value) → List (Addr × Cel) → Prop) (hA : A.handled = none)
    (turn : ∀ i h tk t m own J (RL : Flow → Shared → Prop), (∀ f s₃, (match f with
            | .next | .cont => ∃ h' tk' m' own', s₃ = ⟨h', g, d, tk', os⟩ ∧ St hb h' env.locals m' ((J, .rgi (i + 1) (e - (i + 1))) :: own') ∧ P (i + 1) m' own'
            | .brk => R (.ok .next) s₃
            | .ret v => R (.ok (.ret v)) s₃) → RL f s₃) → i < e → P i m own → St hb h env.locals (fun y => if y = x then some (.int i t) else m y) ((J, .rgi (i + 1) (e - (i + 1))) :: own) →
      wpAny (model PG w) A (execs body env) RL NoE ⟨h, g, d, tk, os⟩)
    (fin : ∀ i h tk m own, e ≤ i → St hb h env.locals m own → P i m own → R (.ok .next) ⟨h, g, d, tk, os⟩)
    {i left : Int} {h : Heap} {tk : Nat} {m : Str → Option Value} {own : List (Addr × Cel)} {J : Addr} (S : St hb h env.locals m ((J, .rgi i left) :: own)) (hl0 : left = if i < e then e - i else 0) (h0 : P i m own)
    (hk : env.scope.kind = .function := by rfl) (hl : env.kindOf x = some .local := by rfl) : codeAny (model PG w) A (.forLoop (.Name x px) (.ref J) body [] env) R ⟨h, g, d, tk, os⟩ := by
  induction hn : (e - i).toNat generalizing i left h tk m own with
  | zero =>
    have hle : e ≤ i := by omega
    rw [if_neg (by omega)] at hl0
    subst hl0
    refine for1 (endG hA S Gone.head (Int.le_refl _) fun h' S' => ?_)
    exact wpAny_execs_nil (fin _ _ _ _ _ hle S' h0)
  | succ n ih =>
    have hlt : i < e := by omega
    rw [if_pos hlt] at hl0
    subst hl0
    refine for1 (nextG (x := i) (left := e - i) S Sets.head (by omega) fun h' t' tk' S' => ?_)
    refine wpAny_assign_Name (stN S' (fun h2 tk2 S2 => ?_) hk hl)
    have S2' : St hb h2 env.locals (fun y => if y = x then some (.int i t') else m y) ((J, .rgi (i + 1) (e - (i + 1))) :: own) := by
      rw [show e - (i + 1) = e - i - 1 by omega]; exact S2
    refine wpAny_mono (turn i h2 tk2 t' m own J _ (fun _ _ x => x) hlt h0 S2') (fun f s₃ h₃ => ?_) fun _ _ x => x
    have hle : e - (i + 1) = if i + 1 < e then e - (i + 1) else 0 := by split <;> omega
    cases f with
    | next => obtain ⟨h', tk', m', own', rfl, S3, hp⟩ := h₃; exact ih S3 hle hp (by omega)
    | cont => obtain ⟨h', tk', m', own', rfl, S3, hp⟩ := h₃; exact ih S3 hle hp (by omega)
    | brk => exact h₃
    | ret v => exact h₃
noncomputable def isum (cnt : List Nat) (tab : Nat) : Nat → Nat
  | 0 => 0
  | k + 1 => isum cnt tab k + (if tab ≤ k then k / tab * cnt.getD k 0 else 0)
theorem isum_low (cnt : List Nat) (tab : Nat) : ∀ k, k ≤ tab → isum cnt tab k = 0
  | 0, _ => rfl
  | k + 1, h => by rw [isum, isum_low cnt tab k (by omega), if_neg (by omega)]
theorem isum_high (cnt : List Nat) (tab : Nat) : ∀ k, cnt.length ≤ k → isum cnt tab k = isum cnt tab cnt.length
  | 0, h => by rw [show cnt.length = 0 by omega]
  | k + 1, h => by
    by_cases e : cnt.length = k + 1
    · rw [e]
    · rw [isum, isum_high cnt tab k (by omega), List.getD_eq_getElem?_getD, List.getElem?_eq_none (by omega)]
      simp
noncomputable def ind (cnt : List Nat) (b nt tab : Nat) : Nat := b + tab * (isum cnt tab cnt.length + nt)
theorem indent_spec {w : World} {hb : Heap} {L : Addr} {m : Str → Option Value} {own : List (Addr × Cel)} {A : Around} {E : Value → Shared → Prop} {hp : Heap} {g : Array GenState} {d : Drawn} {tk : Nat} {os : OsState} {Q : Value → Shared → Prop} (B : Bs w hb) (S : St hb hp L m own)
    {x dx tn tc : Addr} {fs : List (Str × Value)} {cv : List Value} {cnt : List Nat} {b nt tab : Nat} {t1 t2 t3 : Tok} (hx : (x, .ins 83 dx) ∈ own) (hdx : (dx, .dct fs) ∈ own) (hn : (tn, .obj (tupO [.ref tc, .int (b : Nat) t2])) ∈ own) (hc : (tc, .obj (tupO cv)) ∈ own)
    (f1 : fs.lookup ("nt" : Str) = some (.int (nt : Nat) t1)) (f2 : fs.lookup ("norm" : Str) = some (.ref tn)) (hcv : cv.map ival = cnt.map (fun x => some ((x : Nat) : Int)))
    (hz : cnt.length ≤ 10000) (htab : 0 < tab) (htab2 : tab ≤ 1000) (hr : A.depth + 30 < recursionLimit) (hA : A.handled = none)
    (hQ : ∀ h' tk' t', St hb h' L m own → Q (.int (ind cnt b nt tab : Nat) t') ⟨h', g, d, tk', os⟩) :
    wpAny (model PG w) A (PySem.call (.ref 52) [.ref x, .int (tab : Nat) t3]) Q E ⟨hp, g, d, tk, os⟩ := by
  refine wpAny_call ?_
  refine callK (binds := [("self", .ref x), ("tabsize", .int (tab : Nat) t3)]) B S (by rfl) (by rfl) (by omega) (.of_eq rfl) (by rfl) (fun h1 L1 tk1 S => genR fun RF hRF => ?_)
  have hcl : cv.length = cnt.length := by simpa using congrArg List.length hcv
  walk_at "ww"
  refine iterG S (by walk_at "mem") (by omega) (by omega) ?_
  intro h I S
  refine forG_inv (x := "i") (cv.length : Int) (fun i m' own' => own' = (L, Cel.ns m) :: own ∧ ∃ k : Nat, i = k ∧ tab ≤ k ∧ ∃ t1 t2 t3, m' "il" = some (.int (isum cnt tab k : Nat) t1) ∧ m' "count" = some (.ref tc) ∧ m' "tabsize" = some (.int (tab : Nat) t2) ∧ m' "trailing" = some (.int (b : Nat) t3) ∧ m' "self" = some (.ref x) ∧ k ≤ 20000) (by exact hA) ?_ ?_ (S.sub (own' := (I, Cel.rgi _ _) :: (L, Cel.ns m) :: own) (by walk_at "sl")) rfl ?_
  · rintro i h tk t m' own' J RL hRL hi ⟨rfl, k, rfl, hk, t1, t2, t3, ml, mc, mt, mb, ms, hk2⟩ S
    obtain ⟨t4, hg⟩ := bump_get hcv (b := k) (by omega)
    walk_at "ww"
    refine subT S (by walk_at "mem") (by omega) (by omega) (by rw [Int.toNat_natCast]; exact hg) ?_
    walk_at "ww"
    have hkt : k / tab ≤ k := Nat.div_le_self _ _
    rw [← Int.natCast_ediv]
    obtain ⟨q, hq⟩ : ∃ q, q = k / tab := ⟨_, rfl⟩
    rw [← hq]
    refine mulI (mulSm (by omega)) ?_
    intro t tk
    walk_at "ww"
    have e1 : ((isum cnt tab k : Nat) : Int) + (q : Int) * ((cnt.getD k 0 : Nat) : Int) = ((isum cnt tab (k + 1) : Nat) : Int) := by
      rw [isum, if_pos hk, ← hq]; push_cast; rfl
    rw [e1] at S
    exact ⟨_, _, _, _, rfl, S, rfl, k + 1, by push_cast; rfl, by omega, _, _, _, by walk_at "lk", by walk_at "lk", by walk_at "lk", by walk_at "lk", by walk_at "lk", by omega⟩
  · rintro i h tk m' own' hi S ⟨rfl, k, rfl, hk, t1, t2, t3, ml, mc, mt, mb, ms, hk2⟩
    walk_at "ww"
    refine mulI (mulSm (by omega)) ?_
    intro t tk
    walk_at "ww"
    have e1 : (b : Int) + (tab : Int) * (((isum cnt tab k : Nat) : Int) + (nt : Int)) = ((ind cnt b nt tab : Nat) : Int) := by
      rw [isum_high cnt tab k (by omega)]; unfold ind; push_cast; rfl
    rw [e1]
    exact hQ _ _ _ S.leave
  · exact ⟨rfl, tab, rfl, Nat.le_refl _, _, _, _, by rw [isum_low cnt tab tab (Nat.le_refl _)]; walk_at "lk", by walk_at "lk", by walk_at "lk", by walk_at "lk", by walk_at "lk", by omega⟩
section
variable {w : World} {hb h h' : Heap} {L : Addr} {m : Str → Option Value} {own own' : List (Addr × Cel)} {A : Around} {E : Value → Shared → Prop} {hp : Heap} {g : Array GenState} {d : Drawn} {tk : Nat} {os : OsState} {env : Env}
theorem St.besides (S : St hb h L m own) {C : Addr} (hx : Heap.ExtBut C h h') (h1 : C ∉ L :: own.map (·.1)) (h2 : hb.get? C = none) : St hb h' L m own := by
  have ne : ∀ p ∈ own, p.1 ≠ C := fun p hp e => h1 (.tail _ (e ▸ List.mem_map_of_mem hp))
  refine ⟨fun b o e => hx b o (fun q => by subst q; rw [h2] at e; cases e) (S.keep b o e), S.fr.extBut hx (fun q => h1 (q ▸ .head _)), S.above, fun p hp => ⟨(S.has p hp).1.keep fun o e => hx _ o (ne p hp) e, (S.has p hp).2⟩, S.nd⟩
/-- an iterator of the ledger's -/
structure Itr (w : World) (hb : Heap) (I : Addr) (c : Nat → Cel) (n : Nat) (F : Nat → Value → Prop) (Kp : List (Addr × Cel) → Prop) : Prop where
  self : ∀ {A : Around} {E : Value → Shared → Prop} {s : Shared} {Q : Value → Shared → Prop} {L : Addr} {m : Str → Option Value} {own : List (Addr × Cel)} {i : Nat}, St hb s.heap L m own → (I, c i) ∈ own → Q (.ref I) s → wpAny (model PG w) A (pyIter (.ref I)) Q E s
  next : ∀ {A : Around} {E : Value → Shared → Prop} {hp : Heap} {g : Array GenState} {d : Drawn} {tk : Nat} {os : OsState} {Q : Option Value → Shared → Prop} {L : Addr} {m : Str → Option Value} {own own' : List (Addr × Cel)} {i : Nat}, i < n → Kp own → St hb hp L m own → Sets I (c i) (c (i + 1)) own own' →
    (∀ h' tk' v, F i v → St hb h' L m own' → Q (some v) ⟨h', g, d, tk', os⟩) → wpAny (model PG w) A (pyNext (.ref I)) Q E ⟨hp, g, d, tk, os⟩
  fin : ∀ {A : Around} {E : Value → Shared → Prop} {hp : Heap} {g : Array GenState} {d : Drawn} {tk : Nat} {os : OsState} {Q : Option Value → Shared → Prop} {L : Addr} {m : Str → Option Value} {own own' : List (Addr × Cel)}, A.handled = none → Kp own → St hb hp L m own → Gone I (c n) own own' →
    (∀ h', St hb h' L m own' → Q none ⟨h', g, d, tk, os⟩) → wpAny (model PG w) A (pyNext (.ref I)) Q E ⟨hp, g, d, tk, os⟩
  up : ∀ p own, Kp own → Kp (p :: own)
theorem itrL {I l : Addr} {vs : List Value} : Itr w hb I (fun i => .lit l i) vs.length (fun i v => vs[i]? = some v) (fun own => (l, .lst vs) ∈ own) where
  self := fun S hi h => wpAny_pyIter_listiter (S.mem hi) h
  next := fun hi hK S U h => nextL S U hK (List.getElem?_eq_getElem hi) fun h' S' => h h' _ _ (List.getElem?_eq_getElem hi) S'
  fin := fun hh hK S U h => endL hh S U hK (by simp) fun h' S' => h h' S'
  up := fun _ _ h => .tail _ h
theorem itrS {I : Addr} {a : List Nat} {t : Tok} : Itr w hb I (fun i => .sit a t i) a.length (fun i v => ∃ c t', a[i]? = some c ∧ v = .str (st [c]) t') (fun _ => True) where
  self := fun S hi h => wpAny_pyIter_striter_ascii (S.mem hi) h
  next := fun hi hK S U h => nextS S U (List.getElem?_eq_getElem hi) fun h' t' tk' S' => h h' _ _ ⟨_, _, List.getElem?_eq_getElem hi, rfl⟩ S'
  fin := fun hh hK S U h => endS hh S U (by simp) fun h' S' => h h' S'
  up := fun _ _ h => h
theorem itrG {I : Addr} {a : Int} {n : Nat} : Itr w hb I (fun i => .rgi (a + i) ((n : Int) - i)) n (fun i v => ∃ t', v = .int (a + i) t') (fun _ => True) where
  self := fun S hi h => by
    obtain ⟨o, ho, rfl⟩ := S.mem hi
    exact wpAny_pyIter_rangeiter ho h
  next := fun {A E hp g d tk os Q L m own own' i} hi hK S U h => nextG (x := a + i) (left := (n : Int) - i) S (by
    have e1 : a + (i : Int) + 1 = a + ((i + 1 : Nat) : Int) := by (first | lia | omega)
    have e2 : (n : Int) - i - 1 = (n : Int) - ((i + 1 : Nat) : Int) := by (first | lia | omega)
    rw [e1, e2]; exact U) (by (first | lia | omega)) fun h' t' tk' S' => h h' _ _ ⟨_, rfl⟩ S'
  fin := fun hh hK S U h => endG hh S U (by (first | lia | omega)) fun h' S' => h h' S'
  up := fun _ _ h => h
theorem tst0 {M : Model} {Q : Bool → Shared → Prop} {s : Shared} {f : Expr → Bool → Sem (ForInStep Bool)} (h : Q true s) : wpAny M A (forIn ([] : List Expr) true f) Q E s := wpAny_pure h
theorem tst1 {Q : Bool → Shared → Prop} {s : Shared} {c : Expr} {cenv : Env} (h : wpAny (model PG w) A (isTrue c cenv (eval c cenv)) Q E s) :
    wpAny (model PG w) A (forIn [c] true fun c r => if r = true then do let ok ← isTrue c cenv (eval c cenv); pure (ForInStep.yield ok) else pure (ForInStep.yield r)) Q E s := wpAny_tests_one h
/-- the rest of a comprehension behind its first iterator -/
noncomputable def CompGo (w : World) (A : Around) (E : Value → Shared → Prop) (elt iter : Expr) (x : Str) (px : Pos) (ifs : List Expr) (scope : Scope) (pos : Pos) (cl : List (Str × Addr)) (env : Env) (use : Option (Value → Sem Unit)) (Q : Value → Shared → Prop) (it : Value) (s₂ : Shared) : Prop :=
  wpAny (model PG w) A (newList []) (fun acc s₃ => wpAny (model PG w) A (newFunctionEnv scope env.globals cl [] env.qual none .none (some env)) (fun cenv s₄ =>
    codeAny (model PG w) A (.compStart (.ListComp elt [⟨.Name x px, iter, ifs, 0⟩] scope pos) 0 it acc { cenv with scope := relabel scope env }) (compPost (model PG w) A E use Q acc cenv.locals) s₄) E s₃) E s₂
theorem ListComp_ {elt iter : Expr} {x : Str} {px : Pos} {ifs : List Expr} {scope : Scope} {pos : Pos} {cl : List (Str × Addr)} {s : Shared} {Q : Value → Shared → Prop}
    (hclos : closureFor scope env = pure cl) (hnames : ∀ x ∈ scope.names, x.2 = .local → scope.names.lookup x.1 = some .local)
    (h : wpAny (model PG w) A (eval iter env) (fun x' s₁ => wpAny (model PG w) A (pyIter x') (fun it s₂ => CompGo w A E elt iter x px ifs scope pos cl env none Q it s₂) E s₁) E s)
    (hkind : scope.kind = .function := by rfl) (hs : ∀ x, foldedSetIterable iter env x = pure x := by intro _; rfl) :
    wpAny (model PG w) A (eval (.ListComp elt [⟨.Name x px, iter, ifs, 0⟩] scope pos) env) Q E s := by
  rw [eval_ListComp]
  exact wpAny_comprehension_free (use := none) rfl hs hclos hkind hnames h
theorem Assign_ListComp_ {elt iter : Expr} {x y : Str} {px py : Pos} {ifs : List Expr} {scope : Scope} {pos spos : Pos} {cl : List (Str × Addr)} {s : Shared} {Q : Flow → Shared → Prop}
    (hclos : closureFor scope env = pure cl) (hnames : ∀ x ∈ scope.names, x.2 = .local → scope.names.lookup x.1 = some .local)
    (h : wpAny (model PG w) A (eval iter env) (fun x' s₁ => wpAny (model PG w) A (pyIter x') (fun it s₂ => CompGo w A E elt iter x px ifs scope pos cl env (some (assign (.Name y py) env)) (fun _ s' => Q .next s') it s₂) E s₁) E s)
    (hsw : swapsWith (.ListComp elt [⟨.Name x px, iter, ifs, 0⟩] scope pos) (some (.Name y py)) spos.line env = pure true := by rfl)
    (hkind : scope.kind = .function := by rfl) (hs : ∀ x, foldedSetIterable iter env x = pure x := by intro _; rfl) :
    wpAny (model PG w) A (exec (.Assign [.Name y py] (.ListComp elt [⟨.Name x px, iter, ifs, 0⟩] scope pos) spos) env) Q E s := by
  rw [exec_Assign_Name_used _ _ _ _ hsw]
  refine wpAny_bind (wpAny_standAt (wpAny_bind ?_))
  show wpAny _ A (do let _ ← comprehension (.ListComp elt [⟨.Name x px, iter, ifs, 0⟩] scope pos) scope env _ (newList []) false (eval iter env) (some (assign (.Name y py) env))) _ _ s
  exact wpAny_bind (wpAny_mono (wpAny_comprehension_free (use := some (assign (.Name y py) env)) (Q := fun _ s' => Q .next s') rfl hs hclos hkind hnames h) (fun _ s' hq => wpAny_pure (wpAny_pure hq)) fun _ _ e => e)
/-- the comprehension's loop -/
theorem compCore {elt iter : Expr} {x : Str} {px : Pos} {ifs : List Expr} {scope : Scope} {pos : Pos} {cl : List (Str × Addr)} {RR : Value → Addr → Result → Shared → Prop} {I : Addr} {c : Nat → Cel} {n : Nat} {F : Nat → Value → Prop} {Kp : List (Addr × Cel) → Prop}
    (It : Itr w hb I c n F Kp) (P : Nat → List Value → List (Addr × Cel) → Prop) (S : St hb hp L m ((I, c 0) :: own)) (hA : A.handled = none) (hn : n ≤ 1000000) (hK : ∀ i acc ow, P i acc ow → Kp ow) (h0 : P 0 [] own)
    (turn : ∀ C D i v acc ow h tk (mc : Str → Option Value), i < n → F i v → P i acc ow → acc.length ≤ i → St hb h C (fun y => if y = x then some v else mc y) ((I, c (i + 1)) :: (D, .lst acc) :: (L, .ns m) :: ow) →
      wpAny (model PG w) A (forIn ifs true fun c r => if r = true then do let ok ← isTrue c (compEnvC scope cl C env) (eval c (compEnvC scope cl C env)); pure (ForInStep.yield ok) else pure (ForInStep.yield r)) (fun ok s₃ =>
        if ok = true then wpAny (model PG w) A (eval elt (compEnvC scope cl C env)) (fun y s₄ => ∃ h' tk' mc' ow', s₄ = ⟨h', g, d, tk', os⟩ ∧ St hb h' C mc' ((I, c (i + 1)) :: (D, .lst acc) :: (L, .ns m) :: ow') ∧ P (i + 1) (acc ++ [y]) ow') NoE s₃
        else ∃ h' tk' mc' ow', s₃ = ⟨h', g, d, tk', os⟩ ∧ St hb h' C mc' ((I, c (i + 1)) :: (D, .lst acc) :: (L, .ns m) :: ow') ∧ P (i + 1) acc ow') NoE ⟨h, g, d, tk, os⟩)
    (hRR : ∀ C h tk D acc ow mc, St hb h C mc ((D, .lst acc) :: (L, .ns m) :: ow) → P n acc ow → RR (.ref D) C (.ok .next) ⟨h, g, d, tk, os⟩)
    (hcell : ∀ y ∈ scope.names, y.2 ≠ .cell) (hx : scope.names.lookup x = some .local) (hkind : scope.kind = .function) :
    wpAny (model PG w) A (newList []) (fun acc s₃ => wpAny (model PG w) A (newFunctionEnv scope env.globals cl [] env.qual none .none (some env)) (fun cenv s₄ =>
      codeAny (model PG w) A (.compStart (.ListComp elt [⟨.Name x px, iter, ifs, 0⟩] scope pos) 0 (.ref I) acc { cenv with scope := relabel scope env }) (RR acc cenv.locals) s₄) E s₃) E ⟨hp, g, d, tk, os⟩ := by
  refine wpAny_newObj_type (wpAny_newFunctionEnv hcell (by intro y hy; simp at hy) (fun h₁ hns₁ hsb₁ => ?_) hkind)
  dsimp only at hns₁ hsb₁ ⊢
  have S1 : St hb (hp.push { cls := .type "list", dict := none, data := .seq ([] : List Value).toArray }) L m ((hp.objs.size, .lst []) :: (I, c 0) :: own) := S.push _ ⟨0, Heap.get?_push_size _ rfl⟩
  generalize hH2 : hp.push { cls := .type "list", dict := none, data := .seq ([] : List Value).toArray } = H2 at hns₁ hsb₁ S1 ⊢
  have S1' : St hb H2 L m ((I, c 0) :: (hp.objs.size, .lst []) :: own) := S1.flip
  have S2 : St hb h₁ H2.objs.size (fun x => List.lookup x ([] : List (Str × Value)).reverse) ((L, .ns m) :: (I, c 0) :: (hp.objs.size, .lst []) :: own) :=
    S1'.enter (fun b o e => hsb₁.extBut b o (Nat.ne_of_lt (Heap.lt_size e)) (Heap.get?_push_of_some _ e)) (Nat.le_refl _) hns₁
  generalize hCe : H2.objs.size = C at S2 hns₁ hsb₁ ⊢
  generalize hDe : hp.objs.size = D at S2 ⊢
  have S3 : St hb h₁ C (fun x => List.lookup x ([] : List (Str × Value)).reverse) ((I, c 0) :: (D, .lst []) :: (L, .ns m) :: own) := by
    have := S2.flip
    refine ⟨this.keep, this.fr, this.above, fun p hp' => this.has p ?_, ?_⟩
    · simp only [List.mem_cons] at hp' ⊢
      rcases hp' with e | e | e | e <;> simp [e]
    · have nd := this.nd
      simp only [List.map_cons, List.nodup_cons, List.mem_cons, not_or] at nd ⊢
      exact ⟨⟨nd.1.1, nd.1.2.2.1, nd.1.2.1, nd.1.2.2.2⟩, ⟨nd.2.1.2.1, nd.2.1.1, nd.2.1.2.2⟩, ⟨fun e => nd.2.2.1.1 e.symm, nd.2.2.2.1⟩, nd.2.2.1.2, nd.2.2.2.2⟩
  clear S2 S1 S1'
  show codeAny (model PG w) A (.compStart (.ListComp elt [⟨.Name x px, iter, ifs, 0⟩] scope pos) 0 (.ref I) (.ref D) (compEnvC scope cl C env)) (RR (.ref D) C) _
  have loop : ∀ tk', codeAny (model PG w) A (.compLoop (.ListComp elt [⟨.Name x px, iter, ifs, 0⟩] scope pos) 0 (.ref I) (.ref D) (compEnvC scope cl C env)) (RR (.ref D) C) ⟨h₁, g, d, tk', os⟩ := by
    intro tk'
    refine codeAny_compLoop_tests (fun k s' => ∃ i h' tk' mc acc ow, k = n - i ∧ i ≤ n ∧ s' = ⟨h', g, d, tk', os⟩ ∧ acc.length ≤ i ∧ St hb h' C mc ((I, c i) :: (D, .lst acc) :: (L, .ns m) :: ow) ∧ P i acc ow) ?_ n
      ⟨0, h₁, tk', _, [], own, rfl, Nat.zero_le _, rfl, Nat.le_refl _, S3, h0⟩
    rintro k s' ⟨i, h', tk', mc, acc, ow, rfl, hi, rfl, hacc, S', hP⟩
    by_cases hlt : i < n
    · refine It.next hlt (It.up _ _ (It.up _ _ (It.up _ _ (hK _ _ _ hP)))) S' .head fun h2 tk2 v hv S2 => ?_
      refine wpAny_assign_Name (stN (env := compEnvC scope cl C env) S2 (fun h3 tk3 S3 => ?_) hkind (lookup_relabel_local hx))
      refine wpAny_mono (turn C D i v acc ow h3 tk3 mc hlt hv hP hacc S3) (fun ok s₃ h₃ => ?_) fun _ _ e => e.elim
      cases ok with
      | false =>
        obtain ⟨h', tk', mc', ow', rfl, S4, hP4⟩ := h₃
        exact ⟨n - (i + 1), by (first | lia | omega), i + 1, h', tk', mc', acc, ow', rfl, hlt, rfl, by (first | lia | omega), S4, hP4⟩
      | true =>
        refine wpAny_mono h₃ (fun y s₄ h₄ => ?_) fun _ _ e => e.elim
        obtain ⟨h', tk', mc', ow', rfl, S4, hP4⟩ := h₄
        refine appL S4 (.tail .head) (fun h5 S5 => ?_) (by have z : sizeLine = 16777216 := by decide
                                                           (first | lia | omega))
        exact ⟨n - (i + 1), by (first | lia | omega), i + 1, h5, tk', mc', _, ow', rfl, hlt, rfl, by simp; (first | lia | omega), S5, hP4⟩
    · have e : i = n := by (first | lia | omega)
      subst e
      exact It.fin hA (It.up _ _ (It.up _ _ (It.up _ _ (hK _ _ _ hP)))) S' .head fun h2 S2 => hRR _ _ _ _ _ _ _ S2 hP
  exact codeAny_compStart_list (loop _) (It.self (i := 0) S3 (.head _) (loop _))
theorem St.outC {C D : Addr} {acc : List Value} {mc : Str → Option Value} {ow : List (Addr × Cel)} (S2 : St hb h C mc ((D, .lst acc) :: (L, .ns m) :: ow)) : St hb h L m ((C, .ns mc) :: (D, .lst acc) :: ow) := by
  refine (S2.leave1).add S2.fr S2.above ?_
  have nd := S2.nd
  simp only [List.map_cons, List.nodup_cons, List.mem_cons, not_or] at nd ⊢
  exact ⟨nd.1.2.1, nd.1.1, nd.1.2.2⟩
theorem St.dropC {C : Addr} {mc : Str → Option Value} {ow : List (Addr × Cel)} (S : St hb h L m ((C, .ns mc) :: ow)) (hx : Heap.ExtBut C h h') : St hb h' L m ow := by
  refine S.tail.besides hx ?_ (S.has _ (.head _)).2.none
  have nd := S.nd
  simp only [List.map_cons, List.nodup_cons, List.mem_cons, not_or] at nd ⊢
  exact ⟨fun e => nd.1.1 e.symm, nd.2.1⟩
theorem compGo {elt iter : Expr} {x : Str} {px : Pos} {ifs : List Expr} {scope : Scope} {pos : Pos} {cl : List (Str × Addr)} {Q : Value → Shared → Prop} {I : Addr} {c : Nat → Cel} {n : Nat} {F : Nat → Value → Prop} {Kp : List (Addr × Cel) → Prop}
    (It : Itr w hb I c n F Kp) (P : Nat → List Value → List (Addr × Cel) → Prop) (S : St hb hp L m ((I, c 0) :: own)) (hA : A.handled = none) (hn : n ≤ 1000000) (hK : ∀ i acc ow, P i acc ow → Kp ow) (h0 : P 0 [] own)
    (turn : ∀ C D i v acc ow h tk (mc : Str → Option Value), i < n → F i v → P i acc ow → acc.length ≤ i → St hb h C (fun y => if y = x then some v else mc y) ((I, c (i + 1)) :: (D, .lst acc) :: (L, .ns m) :: ow) →
      wpAny (model PG w) A (forIn ifs true fun c r => if r = true then do let ok ← isTrue c (compEnvC scope cl C env) (eval c (compEnvC scope cl C env)); pure (ForInStep.yield ok) else pure (ForInStep.yield r)) (fun ok s₃ =>
        if ok = true then wpAny (model PG w) A (eval elt (compEnvC scope cl C env)) (fun y s₄ => ∃ h' tk' mc' ow', s₄ = ⟨h', g, d, tk', os⟩ ∧ St hb h' C mc' ((I, c (i + 1)) :: (D, .lst acc) :: (L, .ns m) :: ow') ∧ P (i + 1) (acc ++ [y]) ow') NoE s₃
        else ∃ h' tk' mc' ow', s₃ = ⟨h', g, d, tk', os⟩ ∧ St hb h' C mc' ((I, c (i + 1)) :: (D, .lst acc) :: (L, .ns m) :: ow') ∧ P (i + 1) acc ow') NoE ⟨h, g, d, tk, os⟩)
    (hQ : ∀ h tk D acc ow, St hb h L m ((D, .lst acc) :: ow) → P n acc ow → Q (.ref D) ⟨h, g, d, tk, os⟩)
    (hcell : (scope.names.all fun x => decide (x.2 ≠ .cell)) = true := by rfl) (hx : scope.names.lookup x = some .local := by rfl) (hkind : scope.kind = .function := by rfl) :
    CompGo w A E elt iter x px ifs scope pos cl env none Q (.ref I) ⟨hp, g, d, tk, os⟩ := by
  refine compCore (RR := fun acc C => compPost (model PG w) A E none Q acc C) It P S hA hn hK h0 turn (fun C h2 tk2 D acc ow mc S2 hP => ?_) (fun x hx => of_decide_eq_true (List.all_eq_true.mp hcell x hx)) hx hkind
  exact ⟨_, S2.fr, fun h' hs' => hQ h' _ D acc ow (S2.outC.dropC hs'.extBut) hP⟩
theorem compGoA {elt iter : Expr} {x y : Str} {px py : Pos} {ifs : List Expr} {scope : Scope} {pos : Pos} {cl : List (Str × Addr)} {Q : Shared → Prop} {I : Addr} {c : Nat → Cel} {n : Nat} {F : Nat → Value → Prop} {Kp : List (Addr × Cel) → Prop}
    (It : Itr w hb I c n F Kp) (P : Nat → List Value → List (Addr × Cel) → Prop) (S : St hb hp env.locals m ((I, c 0) :: own)) (hA : A.handled = none) (hn : n ≤ 1000000) (hK : ∀ i acc ow, P i acc ow → Kp ow) (h0 : P 0 [] own)
    (turn : ∀ C D i v acc ow h tk (mc : Str → Option Value), i < n → F i v → P i acc ow → acc.length ≤ i → St hb h C (fun y => if y = x then some v else mc y) ((I, c (i + 1)) :: (D, .lst acc) :: (env.locals, .ns m) :: ow) →
      wpAny (model PG w) A (forIn ifs true fun c r => if r = true then do let ok ← isTrue c (compEnvC scope cl C env) (eval c (compEnvC scope cl C env)); pure (ForInStep.yield ok) else pure (ForInStep.yield r)) (fun ok s₃ =>
        if ok = true then wpAny (model PG w) A (eval elt (compEnvC scope cl C env)) (fun y s₄ => ∃ h' tk' mc' ow', s₄ = ⟨h', g, d, tk', os⟩ ∧ St hb h' C mc' ((I, c (i + 1)) :: (D, .lst acc) :: (env.locals, .ns m) :: ow') ∧ P (i + 1) (acc ++ [y]) ow') NoE s₃
        else ∃ h' tk' mc' ow', s₃ = ⟨h', g, d, tk', os⟩ ∧ St hb h' C mc' ((I, c (i + 1)) :: (D, .lst acc) :: (env.locals, .ns m) :: ow') ∧ P (i + 1) acc ow') NoE ⟨h, g, d, tk, os⟩)
    (hQ : ∀ h tk D acc ow, St hb h env.locals (fun z => if z = y then some (.ref D) else m z) ((D, .lst acc) :: ow) → P n acc ow → Q ⟨h, g, d, tk, os⟩)
    (hcell : (scope.names.all fun x => decide (x.2 ≠ .cell)) = true := by rfl) (hx : scope.names.lookup x = some .local := by rfl) (hkind : scope.kind = .function := by rfl) (hk : env.scope.kind = .function := by rfl) (hy : env.kindOf y = some .local := by rfl) :
    CompGo w A E elt iter x px ifs scope pos cl env (some (assign (.Name y py) env)) (fun _ s' => Q s') (.ref I) ⟨hp, g, d, tk, os⟩ := by
  refine compCore (RR := fun acc C => compPost (model PG w) A E (some (assign (.Name y py) env)) (fun _ s' => Q s') acc C) It P S hA hn hK h0 turn (fun C h2 tk2 D acc ow mc S2 hP => ?_) (fun x hx => of_decide_eq_true (List.all_eq_true.mp hcell x hx)) hx hkind
  show wpAny _ A (assign (.Name y py) env (.ref D)) _ E _
  refine wpAny_assign_Name (stN S2.outC (fun h3 tk3 S3 => ?_) hk hy)
  exact ⟨_, S3.mem (.head _), fun h' hs' => hQ h' _ D acc ow (S3.dropC hs'.extBut) hP⟩
end
section
variable {w : World} {hb h h' : Heap} {L : Addr} {m : Str → Option Value} {own own' : List (Addr × Cel)} {A : Around} {E : Value → Shared → Prop} {hp : Heap} {g : Array GenState} {d : Drawn} {tk : Nat} {os : OsState} {env : Env} {l : Addr} {vs : List Value}
theorem intsAre_of {ks : List Int} : ∀ {vs : List Value}, vs.map ival = ks.map some → IntsAre vs ks := by
  induction ks with
  | nil => intro vs h; cases vs with
    | nil => exact .nil
    | cons => cases h
  | cons k ks ih =>
    intro vs h
    cases vs with
    | nil => cases h
    | cons v vs =>
      rw [List.map_cons, List.map_cons] at h
      obtain ⟨h1, h2⟩ := List.cons.inj h
      obtain ⟨t, rfl⟩ := ival_some h1
      exact .cons _ t (ih h2)
theorem minL {ks : List Int} {Q : Value → Shared → Prop} (hh : A.handled = none) (S : St hb hp L m own) (hl : (l, .lst vs) ∈ own) (hv : vs.map ival = ks.map some) (hne : 0 < ks.length)
    (h : ∀ h' M t tk', St hb h' L m own → M ∈ ks → (∀ a ∈ ks, M ≤ a) → Q (.int M t) ⟨h', g, d, tk', os⟩) : wpAny (model PG w) A (call (.builtin "min") [.ref l]) Q E ⟨hp, g, d, tk, os⟩ := by
  obtain ⟨news, N, k⟩ := S.news
  exact min_list_N hh S.Fr N (lst_isList (S.mem hl)) (intsAre_of hv) hne fun h' M t tk' F' N' h1 h2 => h h' M t tk' (k h' [] F' N') h1 h2
theorem sumL {ks : List Int} {Q : Value → Shared → Prop} (hh : A.handled = none) (S : St hb hp L m own) (hl : (l, .lst vs) ∈ own) (hv : vs.map ival = ks.map some)
    (h : ∀ h' t tk', St hb h' L m own → Q (.int ks.sum t) ⟨h', g, d, tk', os⟩) : wpAny (model PG w) A (call (.builtin "sum") [.ref l]) Q E ⟨hp, g, d, tk, os⟩ := by
  obtain ⟨news, N, k⟩ := S.news
  exact sumK hh S.Fr N (lst_isList (S.mem hl)) (intsAre_of hv) fun h' tk' t F' N' => h h' t tk' (k h' [] F' N')
theorem lastL {value slice : Expr} {u : Tok} {v : Value} {Q : Value → Shared → Prop} {s : Shared} (S : St hb s.heap L m own) (hm : (l, .lst vs) ∈ own) (hx : vs.getLast? = some v) (hz : vs.length < 1000000) (h : Q v s)
    (hs : subscripted slice false (.ref l) (.int (-1) u) = operate [.ref l, .int (-1) u] (getItem (.ref l) (.int (-1) u)) := by with_unfolding_all rfl) :
    wpAny (model PG w) A (subscriptTail value slice (.ref l) (.int (-1) u)) Q E s := by
  have hne : 0 < vs.length := by cases vs with
    | nil => cases hx
    | cons => simp
  refine tail_any (lst_isList (S.mem hm)).typeIs slot_list_getitem.lookup (wpAny_getItem_list_neg (lst_isList (S.mem hm)) (by decide) (by simp; (first | lia | omega)) (by decide) ?_ h) hs
  rw [List.getLast?_eq_getElem?] at hx
  rw [List.size_toArray, show ((-1 : Int) + vs.length).toNat = vs.length - 1 by (first | lia | omega)]
  simpa using hx
/-- a for over a range whose name is a cell -/
theorem forGC_inv {R : Result → Shared → Prop} {x : Str} {px : Pos} {body : List Stmt} {c : Addr} (e : Int) (P : Int → (Str → Option Value) → (Option Value → List (Addr × Cel)) → Prop) (hA : A.handled = none) (hc : env.cells.lookup x = some c)
    (hU : ∀ i m o, P i m o → ∀ v v', Sets c (.cel v) (.cel v') (o v) (o v'))
    (turn : ∀ i h tk t m o J (RL : Flow → Shared → Prop), (∀ f s₃, (match f with
            | .next | .cont => ∃ h' tk' m' o' v', s₃ = ⟨h', g, d, tk', os⟩ ∧ St hb h' env.locals m' ((J, .rgi (i + 1) (e - (i + 1))) :: o' v') ∧ P (i + 1) m' o'
            | .brk => R (.ok .next) s₃
            | .ret v => R (.ok (.ret v)) s₃) → RL f s₃) → i < e → P i m o → St hb h env.locals m ((J, .rgi (i + 1) (e - (i + 1))) :: o (some (.int i t))) →
      wpAny (model PG w) A (execs body env) RL NoE ⟨h, g, d, tk, os⟩)
    (fin : ∀ i h tk m o v, e ≤ i → St hb h env.locals m (o v) → P i m o → R (.ok .next) ⟨h, g, d, tk, os⟩)
    {i left : Int} {h : Heap} {tk : Nat} {m : Str → Option Value} {o : Option Value → List (Addr × Cel)} {v : Option Value} {J : Addr} (S : St hb h env.locals m ((J, .rgi i left) :: o v)) (hl0 : left = if i < e then e - i else 0) (h0 : P i m o)
    (hk : env.scope.kind = .function := by rfl) (hl : env.kindOf x = some .cell := by rfl) : codeAny (model PG w) A (.forLoop (.Name x px) (.ref J) body [] env) R ⟨h, g, d, tk, os⟩ := by
  induction hn : (e - i).toNat generalizing i left h tk m o v with
  | zero =>
    have hle : e ≤ i := by (first | lia | omega)
    rw [if_neg (by (first | lia | omega))] at hl0
    subst hl0
    refine for1 (endG hA S Gone.head (Int.le_refl _) fun h' S' => ?_)
    exact wpAny_execs_nil (fin _ _ _ _ _ _ hle S' h0)
  | succ n ih =>
    have hlt : i < e := by (first | lia | omega)
    rw [if_pos hlt] at hl0
    subst hl0
    refine for1 (nextG (x := i) (left := e - i) S Sets.head (by (first | lia | omega)) fun h' t' tk' S' => ?_)
    refine wpAny_assign_Name (stC S' hc (Sets.tail (hU _ _ _ h0 _ _)) (fun h2 S2 => ?_) hk hl)
    have S2' : St hb h2 env.locals m ((J, .rgi (i + 1) (e - (i + 1))) :: o (some (.int i t'))) := by
      rw [show e - (i + 1) = e - i - 1 by (first | lia | omega)]; exact S2
    refine wpAny_mono (turn i h2 _ t' m o J _ (fun _ _ x => x) hlt h0 S2') (fun f s₃ h₃ => ?_) fun _ _ x => x
    have hle : e - (i + 1) = if i + 1 < e then e - (i + 1) else 0 := by split <;> (first | lia | omega)
    cases f with
    | next => obtain ⟨h', tk', m', o', v', rfl, S3, hp⟩ := h₃; exact ih S3 hle hp (by (first | lia | omega))
    | cont => obtain ⟨h', tk', m', o', v', rfl, S3, hp⟩ := h₃; exact ih S3 hle hp (by (first | lia | omega))
    | brk => exact h₃
    | ret v => exact h₃
end
noncomputable def nmap (l : List Nat) : List (Option Int) := l.map fun x => some ((x : Nat) : Int)
theorem nmap_ints {vs : List Value} {l : List Nat} (h : vs.map ival = nmap l) : vs.map ival = (l.map fun x => ((x : Nat) : Int)).map some := by rw [h, nmap, List.map_map]; rfl
theorem nmap_get {vs : List Value} {l : List Nat} (h : vs.map ival = nmap l) {i : Nat} (hi : i < l.length) : ∃ t, vs[i]? = some (.int ((l.getD i 0 : Nat) : Int) t) := bump_get h hi
theorem nmap_len {vs : List Value} {l : List Nat} (h : vs.map ival = nmap l) : vs.length = l.length := by simpa [nmap] using congrArg List.length h
theorem nmap_app {vs : List Value} {l : List Nat} (h : vs.map ival = nmap l) (n : Nat) (t : Tok) : (vs ++ [Value.int (n : Int) t]).map ival = nmap (l ++ [n]) := by
  unfold nmap at h ⊢
  rw [List.map_append, List.map_append, h]; rfl
theorem nmap_last {vs : List Value} {l : List Nat} (h : vs.map ival = nmap l) (hne : l ≠ []) : ∃ t, vs.getLast? = some (.int ((l.getLastD 0 : Nat) : Int) t) := by
  have hl := nmap_len h
  have hp : 0 < l.length := List.length_pos_iff.mpr hne
  obtain ⟨t, ht⟩ := nmap_get h (i := l.length - 1) (by (first | lia | omega))
  refine ⟨t, ?_⟩
  rw [List.getLast?_eq_getElem?, hl, ht, List.getLastD_eq_getLast?, List.getLast?_eq_getElem?, List.getD_eq_getElem?_getD]
noncomputable def mn (l : List Nat) : Nat := l.min?.getD 0
theorem mn_eq {l : List Nat} {x : Nat} (h1 : x ∈ l) (h2 : ∀ a ∈ l, x ≤ a) : mn l = x := by
  unfold mn
  rw [List.min?_eq_some_iff.mpr ⟨h1, h2⟩]; rfl
noncomputable def fitL (cs : List Nat) (o : Nat) : List Nat := cs.filter fun c => decide (c ≤ o)
noncomputable def tabF (cs : List Nat) : Nat → List Nat × List Nat
  | 0 => ([0], [0])
  | k + 1 => ((tabF cs k).1 ++ [1 + (tabF cs k).1.getD (k + 1 - (fitL cs (k + 1)).getLastD 0) 0], (tabF cs k).2 ++ [1 + mn ((fitL cs (k + 1)).map fun c => (tabF cs k).2.getD (k + 1 - c) 0)])
theorem tabF_len (cs : List Nat) : ∀ k, (tabF cs k).1.length = k + 1 ∧ (tabF cs k).2.length = k + 1
  | 0 => ⟨rfl, rfl⟩
  | k + 1 => by
    obtain ⟨h1, h2⟩ := tabF_len cs k
    rw [tabF]
    simp [h1, h2]
theorem table_spec {w : World} {hb : Heap} {L : Addr} {m : Str → Option Value} {own : List (Addr × Cel)} {A : Around} {E : Value → Shared → Prop} {hp : Heap} {g : Array GenState} {d : Drawn} {tk : Nat} {os : OsState} {Q : Value → Shared → Prop} (B : Bs w hb) (S : St hb hp L m own)
    {lc : Addr} {vs : List Value} {cs : List Nat} {most : Nat} {t1 : Tok} (hl : (lc, Cel.lst vs) ∈ own) (hv : vs.map ival = nmap cs) (hc1 : 1 ∈ cs) (hcp : ∀ c ∈ cs, 1 ≤ c) (hcl : cs.length ≤ 10) (hm : most ≤ 100) (hr : A.depth + 20 < recursionLimit) (hA : A.handled = none)
    (hQ : ∀ h' tk' tp lq lf qv fv, St hb h' L m ((tp, .obj (tupO [.ref lq, .ref lf])) :: (lf, .lst fv) :: (lq, .lst qv) :: own) → qv.map ival = nmap (tabF cs most).1 → fv.map ival = nmap (tabF cs most).2 → Q (.ref tp) ⟨h', g, d, tk', os⟩) :
    wpAny (model PG w) A (PySem.call (.ref 232) [.ref lc, .int (most : Nat) t1]) Q E ⟨hp, g, d, tk, os⟩ := by
  refine wpAny_call ?_
  refine callKC (binds := [("coins", .ref lc), ("most", .int (most : Nat) t1)]) B S (by rfl) (by rfl) (by (first | lia | omega)) (.of_eq rfl) (by rfl) (by decide +kernel) (fun h1 L1 tk1 S1 => genR fun RF hRF => ?_)
  have S : St hb h1 L1 (fun y => if y = "most" then some (.int (most : Nat) t1) else if y = "coins" then some (.ref lc) else none) ((L1 + 1 + 1, .cel none) :: (L1 + 1, .cel none) :: (L, .ns m) :: own) := S1
  clear S1
  walk_at "ww"
  refine iterG S (by walk_at "mem") (by (first | lia | omega)) (by (first | lia | omega)) ?_
  intro h I S
  have hvl : vs.length = cs.length := nmap_len hv
  obtain ⟨mm, lf, lq, u1, u2, mc, mq, S⟩ : ∃ (mm : Str → Option Value) (lf lq : Addr) (u1 u2 : Tok), mm "coins" = some (.ref lc) ∧ mm "quick" = some (.ref lq) ∧ St hb h L1 mm ((I, Cel.rgi 1 (if (1 : Int) < most + 1 then (most : Int) + 1 - 1 else 0)) :: (lf, Cel.lst [.int 0 u1]) :: (lq, Cel.lst [.int 0 u2]) :: (L1 + 1 + 1, Cel.cel none) :: (L1 + 1, Cel.cel (some (.ref lf))) :: (L, Cel.ns m) :: own) := by
    refine ⟨_, ?z1, ?z2, ?z3, ?z4, ?za, ?zb, S.sub ?zc⟩
    case zc => walk_at "sl"
    case za => walk_at "lk"
    case zb => walk_at "lk"
  refine forGC_inv (x := "owed") ((most : Int) + 1) (fun i m' o => ∃ k : Nat, i = k + 1 ∧ k ≤ most ∧ ∃ qv fv, o = (fun v => (lf, Cel.lst fv) :: (lq, Cel.lst qv) :: (L1 + 1 + 1, Cel.cel v) :: (L1 + 1, Cel.cel (some (.ref lf))) :: (L, Cel.ns m) :: own) ∧
    m' "coins" = some (.ref lc) ∧ m' "quick" = some (.ref lq) ∧ qv.map ival = nmap (tabF cs k).1 ∧ fv.map ival = nmap (tabF cs k).2) (by exact hA) (by rfl) ?_ ?_ ?_
    (o := fun v => (lf, Cel.lst [.int 0 u1]) :: (lq, Cel.lst [.int 0 u2]) :: (L1 + 1 + 1, Cel.cel v) :: (L1 + 1, Cel.cel (some (.ref lf))) :: (L, Cel.ns m) :: own) (v := none) S rfl ?_
  · rintro i m' o ⟨k, rfl, hk, qv, fv, rfl, _⟩ v v'
    walk_at "set"
  · rintro i h tk t0 m' o J RL hRL hi ⟨k, rfl, hk, qv, fv, rfl, mc, mq, hq, hf⟩ S
    obtain ⟨hlq, hlf⟩ := tabF_len cs k
    have hlq' := nmap_len hq
    have hlf' := nmap_len hf
    have hk1 : (k : Int) + 1 = ((k + 1 : Nat) : Int) := by (first | lia | omega)
    rw [hk1] at S
    dsimp only at S
    have hfit1 : 1 ∈ fitL cs (k + 1) := List.mem_filter.mpr ⟨hc1, by simp⟩
    have hfitn : fitL cs (k + 1) ≠ [] := List.ne_nil_of_mem hfit1
    have hfitm : ∀ c ∈ fitL cs (k + 1), 1 ≤ c ∧ c ≤ k + 1 := fun c hc => ⟨hcp c (List.mem_filter.mp hc).1, by simpa using (List.mem_filter.mp hc).2⟩
    walk_at "w"
    refine Assign_ListComp_ (by rfl) (by decide +kernel) ?_
    walk_at "ww"
    refine iterL rfl S (by walk_at "mem") ?_
    intro h I2 S
    refine compGoA (itrL (vs := vs)) (fun i acc ow => ow = (J, Cel.rgi (((k + 1 : Nat) : Int) + 1) ((most : Int) + 1 - (((k + 1 : Nat) : Int) + 1))) :: (lf, Cel.lst fv) :: (lq, Cel.lst qv) :: (L1 + 1 + 1, Cel.cel (some (.int ((k + 1 : Nat) : Int) t0))) :: (L1 + 1, Cel.cel (some (.ref lf))) :: (L, Cel.ns m) :: own ∧ acc.map ival = nmap (fitL (cs.take i) (k + 1))) S (by exact hA) (by (first | lia | omega)) ?_ ⟨rfl, rfl⟩ ?_ ?_
    · rintro i acc ow ⟨rfl, _⟩
      walk_at "mem"
    · rintro C D i v acc ow h tk mc' hi' hv' ⟨rfl, hacc⟩ hal S
      obtain ⟨t', ht'⟩ := nmap_get hv (i := i) (by (first | lia | omega))
      rw [ht'] at hv'
      cases hv'
      have hget : cs[i]? = some (cs.getD i 0) := by rw [List.getD_eq_getElem?_getD, List.getElem?_eq_getElem (by (first | lia | omega))]; rfl
      refine tst1 ?_
      walk_at "ww"
      have hfs : fitL (cs.take (i + 1)) (k + 1) = fitL (cs.take i) (k + 1) ++ (if cs.getD i 0 ≤ k + 1 then [cs.getD i 0] else []) := by
        unfold fitL
        rw [List.take_add_one, hget, List.filter_append]
        congr 1
        by_cases q : cs.getD i 0 ≤ k + 1
        · rw [if_pos q]; exact List.filter_cons_of_pos (by simpa using q)
        · rw [if_neg q]; exact List.filter_cons_of_neg (by simpa using q)
      refine if_s (fun hc => ?_) (fun hc => ?_)
      · have hc : cs.getD i 0 ≤ k + 1 := by
          have := of_decide_eq_true hc
          (first | lia | omega)
        rw [if_pos hc] at hfs
        walk_at "ww"
        exact exI4 _ _ _ _ ⟨rfl, S, rfl, by rw [hfs]; exact nmap_app hacc _ _⟩
      · have hc : ¬ cs.getD i 0 ≤ k + 1 := fun q => hc (decide_eq_true (by (first | lia | omega)))
        rw [if_neg hc, List.append_nil] at hfs
        exact exI4 _ _ _ _ ⟨rfl, S, rfl, by rw [hfs]; exact hacc⟩
    · rintro h tk fa acc ow S ⟨rfl, hacc⟩
      rw [hvl, List.take_length] at hacc
      have hal := nmap_len hacc
      have hfl : (fitL cs (k + 1)).length ≤ cs.length := List.length_filter_le _ _
      obtain ⟨tl, hlast⟩ := nmap_last hacc hfitn
      have hlm : (fitL cs (k + 1)).getLastD 0 ∈ fitL cs (k + 1) := by
        rw [List.getLastD_eq_getLast?, List.getLast?_eq_some_getLast hfitn]
        exact List.getLast_mem hfitn
      obtain ⟨hl1, hl2⟩ := hfitm _ hlm
      obtain ⟨lz, hlz⟩ : ∃ lz, lz = (fitL cs (k + 1)).getLastD 0 := ⟨_, rfl⟩
      rw [← hlz] at hlast hl1 hl2
      obtain ⟨tg, hget⟩ := nmap_get hq (i := k + 1 - lz) (by (first | lia | omega))
      walk_at "ww"
      refine lastL S (by walk_at "mem") hlast (by (first | lia | omega)) ?_
      walk_at "ww"
      refine subL S (by walk_at "mem") (by (first | lia | omega)) (by (first | lia | omega)) (by rw [show (((k + 1 : Nat) : Int) - (lz : Int)).toNat = k + 1 - lz by (first | lia | omega)]; exact hget) ?_
      walk_at "ww"
      refine ListComp_ (by rfl) (by decide +kernel) ?_
      walk_at "ww"
      refine iterL rfl S (by walk_at "mem") ?_
      intro h I3 S
      refine compGo (itrL (vs := acc)) (fun i ac ow => ow = (fa, Cel.lst acc) :: (J, Cel.rgi (((k + 1 : Nat) : Int) + 1) ((most : Int) + 1 - (((k + 1 : Nat) : Int) + 1))) :: (lf, Cel.lst fv) :: (lq, Cel.lst _) :: (L1 + 1 + 1, Cel.cel (some (.int ((k + 1 : Nat) : Int) _))) :: (L1 + 1, Cel.cel (some (.ref lf))) :: (L, Cel.ns m) :: own ∧
        ac.map ival = nmap (((fitL cs (k + 1)).take i).map fun c => (tabF cs k).2.getD (k + 1 - c) 0)) S (by exact hA) (by (first | lia | omega)) ?_ ⟨rfl, rfl⟩ ?_ ?_
      · rintro i ac ow ⟨rfl, _⟩
        walk_at "mem"
      · rintro C D i v ac ow h tk mc' hi' hv' ⟨rfl, hac⟩ hal' S
        obtain ⟨t', ht'⟩ := nmap_get hacc (i := i) (by (first | lia | omega))
        rw [ht'] at hv'
        cases hv'
        obtain ⟨c, hc⟩ : ∃ c, c = (fitL cs (k + 1)).getD i 0 := ⟨_, rfl⟩
        have hget2 : (fitL cs (k + 1))[i]? = some c := by rw [hc, List.getD_eq_getElem?_getD, List.getElem?_eq_getElem (by (first | lia | omega))]; rfl
        obtain ⟨hc1', hc2'⟩ := hfitm c (List.mem_of_getElem? hget2)
        rw [← hc] at S
        obtain ⟨tf, hgf⟩ := nmap_get hf (i := k + 1 - c) (by (first | lia | omega))
        refine tst0 ?_
        walk_at "ww"
        refine subL S (by walk_at "mem") (by (first | lia | omega)) (by (first | lia | omega)) (by rw [show (((k + 1 : Nat) : Int) - (c : Int)).toNat = k + 1 - c by (first | lia | omega)]; exact hgf) ?_
        refine exI4 _ _ _ _ ⟨rfl, S, rfl, ?_⟩
        have e : ((fitL cs (k + 1)).take (i + 1)).map (fun c => (tabF cs k).2.getD (k + 1 - c) 0) = ((fitL cs (k + 1)).take i).map (fun c => (tabF cs k).2.getD (k + 1 - c) 0) ++ [(tabF cs k).2.getD (k + 1 - c) 0] := by
          rw [List.take_add_one, hget2, List.map_append]; rfl
        rw [e]
        exact nmap_app hac _ _
      · rintro h tk fb ac ow S ⟨rfl, hac⟩
        rw [List.take_of_length_le (by (first | lia | omega))] at hac
        walk_at "ww"
        refine minL (by exact hA) S (by walk_at "mem") (nmap_ints hac) (by rw [List.length_map, List.length_map]; exact List.length_pos_iff.mpr hfitn) ?_
        intro h M t tk S hM1 hM2
        obtain ⟨x, hx1, rfl⟩ := List.mem_map.mp hM1
        have hmn : mn ((fitL cs (k + 1)).map fun c => (tabF cs k).2.getD (k + 1 - c) 0) = x := mn_eq hx1 fun a ha => by
          have := hM2 a (List.mem_map.mpr ⟨a, ha, rfl⟩)
          (first | lia | omega)
        walk_at "ww"
        have e1 : (1 : Int) + ((tabF cs k).1.getD (k + 1 - lz) 0 : Nat) = ((1 + (tabF cs k).1.getD (k + 1 - lz) 0 : Nat) : Int) := by (first | lia | omega)
        have e2 : (1 : Int) + (x : Int) = ((1 + x : Nat) : Int) := by (first | lia | omega)
        rw [e1, e2, ← hk1] at S
        obtain ⟨mm3, u3, u4, m3c, m3q, S⟩ : ∃ (mm3 : Str → Option Value) (u3 u4 : Tok), mm3 "coins" = some (.ref lc) ∧ mm3 "quick" = some (.ref lq) ∧ St hb h L1 mm3 ((J, Cel.rgi ((k : Int) + 1 + 1) ((most : Int) + 1 - ((k : Int) + 1 + 1))) :: (lf, Cel.lst (fv ++ [Value.int ((1 + x : Nat) : Int) u3])) :: (lq, Cel.lst (qv ++ [Value.int ((1 + (tabF cs k).1.getD (k + 1 - lz) 0 : Nat) : Int) u4])) :: (L1 + 1 + 1, Cel.cel (some (.int ((k : Int) + 1) t0))) :: (L1 + 1, Cel.cel (some (.ref lf))) :: (L, Cel.ns m) :: own) := by
          refine ⟨_, ?y3, ?y4, ?ya, ?yb, S.sub ?yc⟩
          case yc => walk_at "sl"
          case ya => walk_at "lk"
          case yb => walk_at "lk"
        exact ⟨_, _, _, (fun v => (lf, Cel.lst (fv ++ [Value.int ((1 + x : Nat) : Int) u3])) :: (lq, Cel.lst (qv ++ [Value.int ((1 + (tabF cs k).1.getD (k + 1 - lz) 0 : Nat) : Int) u4])) :: (L1 + 1 + 1, Cel.cel v) :: (L1 + 1, Cel.cel (some (.ref lf))) :: (L, Cel.ns m) :: own), some (.int ((k : Int) + 1) t0), rfl, S, k + 1, by (first | lia | omega), by (first | lia | omega), _, _, rfl, m3c, m3q, by rw [tabF, ← hlz]; exact nmap_app hq _ _, by rw [tabF, hmn]; exact nmap_app hf _ _⟩
  · rintro i h tk m' o v hi S ⟨k, rfl, hk, qv, fv, rfl, mc, mq, hq, hf⟩
    have e : k = most := by (first | lia | omega)
    subst e
    walk_at "ww"
    exact hQ _ _ _ _ _ _ _ (St.leaveP [_, _, _] (S.sub (own' := (_, Cel.obj (tupO [.ref lq, .ref lf])) :: (lf, Cel.lst fv) :: (lq, Cel.lst qv) :: (L, Cel.ns m) :: own) (by walk_at "sl"))) hq hf
  · exact ⟨0, rfl, Nat.zero_le _, _, _, rfl, mc, mq, rfl, rfl⟩
section
variable {w : World} {hb h h' : Heap} {L : Addr} {m : Str → Option Value} {own own' : List (Addr × Cel)} {A : Around} {E : Value → Shared → Prop} {hp : Heap} {g : Array GenState} {d : Drawn} {tk : Nat} {os : OsState} {env : Env} {l : Addr} {vs : List Value}
theorem subS {value slice : Expr} {a : List Nat} {k : Int} {c : Nat} {t u : Tok} {Q : Value → Shared → Prop} (h0 : 0 ≤ k) (hk : k < 1000000) (hx : a[k.toNat]? = some c) (h : ∀ t tk', Q (.str (st [c]) t) ⟨hp, g, d, tk', os⟩)
    (hs : subscripted slice false (.str (st a) t) (.int k u) = operate [.str (st a) t, .int k u] (getItem (.str (st a) t) (.int k u)) := by with_unfolding_all rfl) :
    wpAny (model PG w) A (subscriptTail value slice (.str (st a) t) (.int k u)) Q E ⟨hp, g, d, tk, os⟩ := by
  have hlt := (List.getElem?_eq_some_iff.mp hx).1
  refine tail_any (typeIs_str _ _ _) PySem.F.slot_str_getitem.lookup (P.getItem_str (c := c) ?_ ?_ (h _ _)) hs
  · rw [Bool.or_eq_false_iff]
    exact ⟨decide_eq_false (by (first | lia | omega)), decide_eq_false (by (first | lia | omega))⟩
  · have e : seqIndex? k (st a).length = some k.toNat := by
      unfold seqIndex?
      rw [st_len]
      simp
      (first | lia | omega)
    rw [e]
    simpa [st] using hx
theorem slcE {a b : PySem.Expr} {p : Pos} {s : Shared} {Q : Value → Shared → Prop} (h : wpAny (model PG w) A (eval a env) (fun l s₁ => wpAny (model PG w) A (eval b env) (fun st s₃ => Q (.ref s₃.heap.objs.size) { s₃ with heap := s₃.heap.push { cls := .type "slice", data := .fields #[l, .none, st] } }) E s₁) E s) :
    wpAny (model PG w) A (eval (.Slice (some a) none (some b) p) env) Q E s :=
  wpAny_Slice (wpAny_mono h (fun _ _ h₁ => wpAny_pure h₁) fun _ _ e => e)
theorem slcL {value slice : Expr} {ops : List Value} {a k : Int} {ta tk' : Tok} {Q : Value → Shared → Prop} (S : St hb hp L m own) (hl : hp.IsList l vs.toArray) (h0 : k ≠ 0) (hz : vs.length < 1000000)
    (h : ∀ h' a', St hb h' L m ((a', .lst (slicePick vs.toArray (some a) none (some k)).toList) :: own) → Q (.ref a') ⟨h', g, d, tk, os⟩)
    (hs : subscripted slice false (.ref l) (.ref hp.objs.size) = operate ops (getItem (.ref l) (.ref hp.objs.size)) := by with_unfolding_all rfl)
    (ht : ∀ r, letTemporaryGo value (.ref l) r = pure () := by intro _; with_unfolding_all rfl) :
    wpAny (model PG w) A (subscriptTail value slice (.ref l) (.ref hp.objs.size)) Q E ⟨hp.push { cls := .type "slice", data := .fields #[.int a ta, .none, .int k tk'] }, g, d, tk, os⟩ := by
  obtain ⟨news, N, kk⟩ := S.news
  have hz' : vs.toArray.size ≤ sizeLine := by
    have z : sizeLine = 16777216 := by decide
    simp
    (first | lia | omega)
  refine slice_list3 (s := ⟨hp, g, d, tk, os⟩) (hsz := hz') S.Fr N hl (.int a ta) .none (.int k tk') (by simpa using h0) (fun h' F' N' => ?_) hs ht
  refine h h' _ ((kk h' [_] F' N').add (c := .lst (slicePick vs.toArray (some a) none (some k)).toList) ⟨0, ?_⟩ (Cel.Apart.of_le (Nat.le_succ_of_le S.sz)) (S.newAddr (Nat.le_succ _)))
  exact (N' _ (.head _)).1
end
noncomputable def wrF (n way : Nat) : List Nat :=
  if way % 2 = 1 then (List.replicate n [92, 32]).flatten ++ [[10, 9, 13, 32].getD (way / 2 % 4) 0] else [34] ++ List.replicate n 32 ++ [34] ++ List.replicate (way / 2 % 2) 10
theorem glue_nil : ∀ l : List (List Nat), glue [] l = l.flatten
  | [] => rfl
  | [x] => by simp [glue]
  | x :: y :: r => by
    rw [glue, glue_nil (y :: r)]
    simp
theorem written_spec {w : World} {hb : Heap} {L : Addr} {m : Str → Option Value} {own : List (Addr × Cel)} {A : Around} {E : Value → Shared → Prop} {hp : Heap} {g : Array GenState} {d : Drawn} {tk : Nat} {os : OsState} {Q : Value → Shared → Prop} (B : Bs w hb) (S : St hb hp L m own)
    {n way : Nat} {t1 t2 : Tok} (hn : n ≤ 100) (hr : A.depth + 20 < recursionLimit) (hA : A.handled = none)
    (hQ : ∀ h' tk' t', St hb h' L m own → Q (.str (st (wrF n way)) t') ⟨h', g, d, tk', os⟩) :
    wpAny (model PG w) A (PySem.call (.ref 206) [.str (st (List.replicate n 32)) t1, .int (way : Nat) t2]) Q E ⟨hp, g, d, tk, os⟩ := by
  refine wpAny_call ?_
  refine callK (binds := [("word", .str (st (List.replicate n 32)) t1), ("way", .int (way : Nat) t2)]) B S (by rfl) (by rfl) (by (first | lia | omega)) (.of_eq rfl) (by rfl) (fun h1 L1 tk1 S => genR fun RF hRF => ?_)
  walk_at "ww"
  refine if_s (fun hc => ?_) (fun hc => ?_)
  · have hc : way % 2 = 1 := by
      have : ((way : Int) % 2) ≠ 0 := by simpa using hc
      (first | lia | omega)
    walk_at "ww"
    refine ListComp_ (by rfl) (by decide +kernel) ?_
    walk_at "ww"
    refine iterS S (List.all_eq_true.mpr fun x hx => by rw [List.eq_of_mem_replicate hx]; decide) ?_
    intro h I S
    refine compGo (itrS (a := List.replicate n 32) (t := t1)) (fun i acc ow => ow = (L, Cel.ns m) :: own ∧ acc.map sval = (List.replicate i [92, 32]).map some) S (by exact hA) (by simp; (first | lia | omega)) (fun _ _ _ _ => trivial) ⟨rfl, rfl⟩ ?_ ?_
    · rintro C D i v acc ow h tk mc' hi' ⟨c, t', hc', rfl⟩ ⟨rfl, hac⟩ hal' S
      have hc32 : c = 32 := List.eq_of_mem_replicate (List.mem_of_getElem? hc')
      subst hc32
      refine tst0 ?_
      walk_at "ww"
      refine ⟨_, _, _, _, rfl, S, rfl, ?_⟩
      rw [List.map_append, hac, List.replicate_succ', List.map_append]
      rfl
    · rintro h tk D acc ow S ⟨rfl, hac⟩
      rw [List.length_replicate] at hac
      walk_at "ww"
      refine joinS S (by walk_at "mem") hac (by simp; (first | lia | omega)) ?_
      intro t tk
      walk_at "ww"
      refine subS (c := [10, 9, 13, 32].getD (way / 2 % 4) 0) (by (first | lia | omega)) (by (first | lia | omega)) ?_ ?_
      · have hw4 : way / 2 % 4 < 4 := Nat.mod_lt _ (by decide)
        rw [show ((way : Int) / 2 % 4).toNat = way / 2 % 4 by (first | lia | omega)]
        generalize way / 2 % 4 = x at hw4 ⊢
        match x, hw4 with
        | 0, _ => rfl
        | 1, _ => rfl
        | 2, _ => rfl
        | 3, _ => rfl
      intro t tk
      have hwr : glue [] (List.replicate n [92, 32]) ++ [[10, 9, 13, 32].getD (way / 2 % 4) 0] = wrF n way := by rw [glue_nil, wrF, if_pos hc]
      have hgl : (glue [] (List.replicate n [92, 32])).length = 2 * n := by
        rw [glue_nil]; simp [Nat.mul_comm]
      walk_at "ww"
      rw [hwr]
      exact hQ _ _ _ S.tail.leave
  · have hc : ¬ way % 2 = 1 := by
      have : ((way : Int) % 2) = 0 := by simpa using hc
      (first | lia | omega)
    walk_at "ww"
    have hwr : [34] ++ List.replicate n 32 ++ [34] ++ List.replicate ((way : Int) / 2 % 2).toNat 10 = wrF n way := by
      rw [wrF, if_neg hc, show ((way : Int) / 2 % 2).toNat = way / 2 % 2 by (first | lia | omega)]
    rw [hwr]
    exact hQ _ _ _ S.leave
theorem St.rg {hb h : Heap} {L I : Addr} {m : Str → Option Value} {own : List (Addr × Cel)} {a left : Int} (S : St hb h L m ((I, .rgi a left) :: own)) {n : Nat} (hn : (n : Int) = left) : St hb h L m ((I, .rgi (a + ((0 : Nat) : Int)) ((n : Int) - ((0 : Nat) : Int))) :: own) := by
  rw [show a + ((0 : Nat) : Int) = a by (first | lia | omega), show (n : Int) - ((0 : Nat) : Int) = left by (first | lia | omega)]; exact S
theorem sum_mod {js : List Int} : (0 : Int) ≤ (js.map fun (x : Int) => x % 1000000).sum ∧ (js.map fun (x : Int) => x % 1000000).sum ≤ 1000000 * (js.length : Int) := by
  induction js with
  | nil => simp
  | cons x js ih =>
    rw [List.map_cons, List.sum_cons, List.length_cons]
    have h1 := Int.emod_nonneg x (show (1000000 : Int) ≠ 0 by decide)
    have h2 := Int.emod_lt_of_pos x (show (0 : Int) < 1000000 by decide)
    (first | lia | omega)
theorem intsAre_ival {vs : List Value} {ks : List Int} (h : IntsAre vs ks) : vs.map ival = ks.map some := by
  induction h with
  | nil => rfl
  | cons n t _ ih => rw [List.map_cons, List.map_cons, ih]; rfl
theorem heaps_spec {w : World} {hb : Heap} {L : Addr} {m : Str → Option Value} {own : List (Addr × Cel)} {A : Around} {E : Value → Shared → Prop} {hp : Heap} {g : Array GenState} {d : Drawn} {tk : Nat} {os : OsState} {Q : Value → Shared → Prop} (B : Bs w hb) (S : St hb hp L m own)
    {ls lh : Addr} {vals hv : List Value} {ks : List Int} {bs : List Nat} (hsl : hb.IsList ls vals.toArray) (hI : IntsAre vals ks) (hlen : ks.length ≤ 63) (hlh : (lh, Cel.lst hv) ∈ own) (hhv : hv.map ival = nmap bs) (hb5 : bs.length = 5) (hbb : ∀ x ∈ bs, x ≤ 1000) (hr : A.depth + 20 < recursionLimit) (hA : A.handled = none)
    (hQ : ∀ h' tk' l vs (hs : List Nat), hs.length = 5 → (∀ x ∈ hs, x ≤ 1000000000) → vs.map ival = nmap hs → St hb h' L m ((l, .lst vs) :: own) → Q (.ref l) ⟨h', g, d, tk', os⟩) :
    wpAny (model PG w) A (PySem.call (.ref 194) [.ref ls, .ref lh]) Q E ⟨hp, g, d, tk, os⟩ := by
  refine wpAny_call ?_
  refine callKC (binds := [("script", .ref ls), ("heaps", .ref lh)]) B S (by rfl) (by rfl) (by (first | lia | omega)) (.of_eq rfl) (by rfl) (by decide +kernel) (fun h1 L1 tk1 S1 => genR fun RF hRF => ?_)
  have S : St hb h1 L1 (fun y => none) ((L1 + 1 + 1 + 1, .cel none) :: (L1 + 1 + 1, .cel (some (.ref lh))) :: (L1 + 1, .cel (some (.ref ls))) :: (L, .ns m) :: own) := S1
  clear S1
  have hvl : hv.length = bs.length := nmap_len hhv
  walk_at "ww"
  rw [hvl, hb5] at S
  refine ListComp_ (by rfl) (by decide +kernel) ?_
  walk_at "ww"
  refine iterG S (by walk_at "mem") (by (first | lia | omega)) (by (first | lia | omega)) ?_
  intro h I S
  refine compGo (itrG (a := 0) (n := 5)) (fun i acc ow => ow = (L1 + 1 + 1 + 1, Cel.cel (some (.int ((5 : Nat) : Int) t))) :: (L1 + 1 + 1, Cel.cel (some (.ref lh))) :: (L1 + 1, Cel.cel (some (.ref ls))) :: (L, Cel.ns m) :: own ∧ ∃ hs : List Nat, hs.length = i ∧ (∀ x ∈ hs, x ≤ 1000000000) ∧ acc.map ival = nmap hs)
    (St.rg (S.sub (own' := (I, Cel.rgi _ _) :: (L1 + 1 + 1 + 1, Cel.cel (some (.int ((5 : Nat) : Int) t))) :: (L1 + 1 + 1, Cel.cel (some (.ref lh))) :: (L1 + 1, Cel.cel (some (.ref ls))) :: (L, Cel.ns m) :: own) (by walk_at "sl")) (by rfl)) (by exact hA) (by (first | lia | omega)) (fun _ _ _ _ => trivial) ⟨rfl, [], rfl, by simp, rfl⟩ ?_ ?_
  · rintro C D i v acc ow h tk mc' hi' ⟨tv, rfl⟩ ⟨rfl, hs, hhs, hsb, hac⟩ hal' S
    rw [show (0 : Int) + (i : Int) = i by (first | lia | omega)] at S
    obtain ⟨tg, hget⟩ := nmap_get hhv (i := i) (by (first | lia | omega))
    have hbi : bs.getD i 0 ≤ 1000 := by
      rw [List.getD_eq_getElem?_getD, List.getElem?_eq_getElem (by (first | lia | omega))]
      exact hbb _ (List.getElem_mem _)
    have hsl' : h.IsList ls vals.toArray := let ⟨o, e, r⟩ := hsl; ⟨o, S.keep _ _ e, r⟩
    refine tst0 ?_
    walk_at "ww"
    refine subL S (by walk_at "mem") (by (first | lia | omega)) (by (first | lia | omega)) (by rw [Int.toNat_natCast]; exact hget) ?_
    walk_at "ww"
    refine ListComp_ (by rfl) (by decide +kernel) ?_
    walk_at "ww"
    refine slcE ?_
    walk_at "ww"
    have hvlen : vals.length = ks.length := hI.length
    refine slcL (own := _) S (by assumption) (by decide) (by (first | lia | omega)) ?_
    intro h lp S
    have hpk := intsAre_ival (hI.pick (some (i : Int)) none (some ((5 : Nat) : Int)))
    have hpkl := length_pickNums_le hI (some (i : Int)) none (some ((5 : Nat) : Int))
    generalize (slicePick vals.toArray (some (i : Int)) none (some ((5 : Nat) : Int))).toList = pv at S hpk
    generalize pickNums ks (some (i : Int)) none (some ((5 : Nat) : Int)) = js at hpk hpkl
    have hpvl := map_ival_len hpk
    walk_at "ww"
    refine iterL rfl S (by walk_at "mem") ?_
    intro h I2 S
    refine compGo (itrL (vs := pv)) (fun j ac ow => ow = (lp, Cel.lst pv) :: (I, Cel.rgi (0 + ((i + 1 : Nat) : Int)) (((5 : Nat) : Int) - ((i + 1 : Nat) : Int))) :: (D, Cel.lst acc) :: (L1, Cel.ns fun _ => none) :: (L1 + 1 + 1 + 1, Cel.cel (some (.int ((5 : Nat) : Int) t))) :: (L1 + 1 + 1, Cel.cel (some (.ref lh))) :: (L1 + 1, Cel.cel (some (.ref ls))) :: (L, Cel.ns m) :: own ∧
      ac.map ival = ((js.take j).map fun (x : Int) => x % 1000000).map some) S (by exact hA) (by (first | lia | omega)) ?_ ⟨rfl, rfl⟩ ?_ ?_
    · rintro j ac ow ⟨rfl, _⟩
      walk_at "mem"
    · rintro C2 D2 j v ac ow h tk mc2 hj hv' ⟨rfl, hac2⟩ hal2 S
      have hjj : j < js.length := by (first | lia | omega)
      obtain ⟨t', ht'⟩ := map_ival hpk j js[j] (List.getElem?_eq_getElem hjj)
      rw [ht'] at hv'
      cases hv'
      refine tst0 ?_
      walk_at "ww"
      refine powI (by decide) (by decide) (by decide) ?_
      intro t tk
      rw [show ((10 : Int) ^ (6 : Int).toNat) = 1000000 by decide]
      walk_at "ww"
      refine ⟨_, _, _, _, rfl, S, rfl, ?_⟩
      rw [List.take_add_one, List.getElem?_eq_getElem hjj, List.map_append, List.map_append, hac2, List.map_append]
      rfl
    · rintro h tk D2 ac ow S ⟨rfl, hac2⟩
      rw [List.take_of_length_le (by (first | lia | omega))] at hac2
      walk_at "ww"
      refine sumL (by exact hA) S (by walk_at "mem") hac2 ?_
      intro h t tk S
      walk_at "ww"
      obtain ⟨hs1, hs2⟩ := sum_mod (js := js)
      generalize (js.map fun (x : Int) => x % 1000000).sum = z at hs1 hs2
      refine ⟨_, _, _, _, rfl, S.sub (by walk_at "sl"), rfl, hs ++ [bs.getD i 0 + z.toNat], by simp [hhs], ?_, ?_⟩
      · intro x hx
        rcases List.mem_append.mp hx with hx | hx
        · exact hsb x hx
        · rw [List.mem_singleton.mp hx]; (first | lia | omega)
      · rw [show ((bs.getD i 0 : Nat) : Int) + z = ((bs.getD i 0 + z.toNat : Nat) : Int) by (first | lia | omega)]
        exact nmap_app hac _ _
  · rintro h tk D acc ow S ⟨rfl, hs, hhs, hsb, hac⟩
    walk_at "ww"
    exact hQ _ _ _ _ hs hhs hsb hac (St.leaveP [_] (S.sub (own' := (D, Cel.lst acc) :: (L, Cel.ns m) :: own) (by walk_at "sl")))
open PySem PySem.Calls PyProof.Rows PySem.W Builtin Builtin.ObjectAttr
namespace FF
theorem slot_ga : Slot "function" "__getattribute__" "object.__getattribute__" :=
  .of (owner := "object") (n := "__getattribute__") (by rw [typeLookup_type, builtinLookup_eq_fast]; kernel_rfl) (by decide +kernel) (by decide +kernel) (by decide +kernel)
    (by first | exact .inl (by decide +kernel) | exact .inr (by decide +kernel)) (by rw [isSubtype_type]; kernel_rfl)
theorem lk_getattr : typeLookup (.type "function") "__getattr__" = pure none := by rw [typeLookup_type, builtinLookup_eq_fast]; kernel_rfl
theorem lk_read : typeLookup (.type "function") "read" = pure none := by rw [typeLookup_type, builtinLookup_eq_fast]; kernel_rfl
theorem args_ga (a b : Value) : argsOk "object.__getattribute__" ⟨[a, b], []⟩ := by unfold argsOk; kernel_rfl
theorem canon_ga : (Manifest.canonical "object.__getattribute__" != "object.__getattribute__") = false := by decide +kernel
theorem sub_static : isSubtype (.type "function") (.type "staticmethod") = pure false := by rw [isSubtype_type]; kernel_rfl
theorem sub_classm : isSubtype (.type "function") (.type "classmethod") = pure false := by rw [isSubtype_type]; kernel_rfl
theorem store : StoreFacts "function" [.type "function", .type "object"] "object.__setattr__" "object" where
  mro := by kernel_rfl
  slot := .of (owner := "object") (n := "__setattr__") (by rw [typeLookup_type, builtinLookup_eq_fast]; kernel_rfl) (by decide +kernel) (by decide +kernel) (by decide +kernel)
    (by first | exact .inl (by decide +kernel) | exact .inr (by decide +kernel)) (by rw [isSubtype_type]; kernel_rfl)
  entry := PySem.F.store_object.entry
  kind := by decide +kernel
  split := by decide +kernel
  hasOwner := by decide +kernel
  args := fun a b c => by unfold argsOk; kernel_rfl
  passes := fun self => by kernel_rfl
theorem hasDict : typeHasDict (.type "function") = true := by decide +kernel
theorem alone : finalisedInACycleAlone "function" = false := by decide +kernel
end FF
section
variable {prog : Program} {w : World} {A : Around} {E : Value → Shared → Prop} {h : Heap} {g : Array GenState} {d : Drawn} {t : Nat} {os : OsState} {f dx : Addr}
theorem fn_get_entry {o : Obj} {name : Str} {tk : Tok} {v : Value} {md : Str → Option Value} {fd : FuncData} {Q : Fin → Shared → Prop} (hf : h.get? f = some o) (hc : o.cls = .type "function") (hdt : o.data = .func fd) (hdx : o.dict = some dx) (hD : h.Ns dx md) (hnm : typeLookup (.type "function") name = pure none) (hv : md name = some v)
    (hq : Q (.done (.ret v)) ⟨h, g, d, t, os⟩) : wpAny (model prog w) A (Builtin.«object.__getattribute__» ⟨[.ref f, .str name tk], []⟩) Q E ⟨h, g, d, t, os⟩ := by
  obtain ⟨oc, od, oda, osl⟩ := o
  dsimp only at hc hdt hdx
  subst hc hdt hdx
  have hT : (⟨h, g, d, t, os⟩ : Shared).TypeIs (.ref f) "function" := ⟨_, hf, rfl⟩
  have f1 := FF.sub_static
  have f2 := FF.sub_classm
  repeat (any_goals (first | assumption | with_reducible apply Flt.wpAny_nsGet_known | with_reducible apply Flt.wpAny_loadPart_known | wp_step))
theorem fn_getAttr {o : Obj} {name : Str} {v : Value} {md : Str → Option Value} {fd : FuncData} {ex : Bool} {Q : Value → Shared → Prop} (hf : h.get? f = some o) (hc : o.cls = .type "function") (hdt : o.data = .func fd) (hdx : o.dict = some dx) (hD : h.Ns dx md) (hnm : typeLookup (.type "function") name = pure none) (hv : md name = some v)
    (hh : handedOut v = pure v) (hq : Q v ⟨h, g, d, t + 1, os⟩) : wpAny (model prog w) A (getAttr (.ref f) name ex) Q E ⟨h, g, d, t, os⟩ := by
  have hT : (⟨h, g, d, t, os⟩ : Shared).TypeIs (.ref f) "function" := ⟨_, hf, hc⟩
  have hT1 : (⟨h, g, d, t + 1, os⟩ : Shared).TypeIs (.ref f) "function" := ⟨_, hf, hc⟩
  have f1 := FF.slot_ga.lookup
  have f2 := FF.lk_getattr
  have f4 := FF.slot_ga.bind (.ref f)
  cases ex
  all_goals (
    repeat (any_goals (first | assumption | (rw [if_neg (show ¬ (onTheHeap (Value.type "function") && Value.builtin "object.__getattribute__" == Value.builtin "object.__getattribute__") = true by decide)]) | wp_step))
    refine codeAny_call_builtin FF.slot_ga.plain PySem.F.entry_object_getattribute (FF.slot_ga.check _ _ _ _ _ _ _ _ hT1 (FF.args_ga _ _) (fn_get_entry hf hc hdt hdx hD hnm hv ?_))
    repeat (any_goals (first | assumption | wp_step)))
theorem fn_getMethod {o : Obj} {name : Str} {v : Value} {md : Str → Option Value} {fd : FuncData} {pl : Sem Bool} {Q : Value × List Value → Shared → Prop} (hf : h.get? f = some o) (hc : o.cls = .type "function") (hdt : o.data = .func fd) (hdx : o.dict = some dx) (hD : h.Ns dx md) (hnm : typeLookup (.type "function") name = pure none) (hv : md name = some v)
    (hh : handedOut v = pure v) (hq : Q (v, []) ⟨h, g, d, t + 1, os⟩) : wpAny (model prog w) A (getMethod (.ref f) name pl) Q E ⟨h, g, d, t, os⟩ := by
  have hT : (⟨h, g, d, t, os⟩ : Shared).TypeIs (.ref f) "function" := ⟨_, hf, hc⟩
  have f1 := FF.slot_ga.lookup
  have f2 := FF.lk_getattr
  unfold getMethod
  refine wpAny_bind (wpAny_specialOf hT f1 ?_)
  show wpAny _ A (if (Manifest.canonical "object.__getattribute__" != "object.__getattribute__") = true then _ else _) Q E _
  rw [FF.canon_ga, if_neg Bool.false_ne_true]
  refine wpAny_bind (wpAny_specialOf hT f2 ?_)
  show wpAny _ A (if false = true then _ else _) Q E _
  rw [if_neg Bool.false_ne_true]
  refine wpAny_bind (wpAny_specialOf hT hnm ?_)
  exact wpAny_bind (fn_getAttr hf hc hdt hdx hD hnm hv hh (wpAny_pure hq))
theorem fn_check {o : Obj} {nameV v : Value} {M : Model} {Q : Unit → Shared → Prop} (hf : h.get? f = some o) (hc : o.cls = .type "function") (hq : Q () ⟨h, g, d, t, os⟩) :
    wpAny M A (checkBuiltinCall "object.__setattr__" ⟨[.ref f, nameV, v], []⟩) Q E ⟨h, g, d, t, os⟩ :=
  FF.store.slot.check _ _ _ _ _ _ _ _ ⟨_, hf, hc⟩ (FF.store.args _ _ _) hq
theorem fn_set_entry {o : Obj} {name : Str} {tk : Tok} {v : Value} {fd : FuncData} {Q : Fin → Shared → Prop} (hf : h.get? f = some o) (hc : o.cls = .type "function") (hdt : o.data = .func fd) (hdx : o.dict = none) (hnm : typeLookup (.type "function") name = pure none)
    (hq : ∀ h' tk', h'.get? f = some { o with dict := some h.objs.size } → h'.Ns h.objs.size (fun y => if y = name then some v else none) → (∀ b ob, b ≠ f → h.get? b = some ob → h'.get? b = some ob) → Q (.done (.ret .none)) ⟨h', g, d, tk', os⟩) :
    wpAny (model prog w) A (Builtin.«object.__setattr__» ⟨[.ref f, .str name tk, v], []⟩) Q E ⟨h, g, d, t, os⟩ := by
  have hpass := FF.store.passes (.ref f)
  have hmro := FF.store.mro
  obtain ⟨oc, od, oda, osl⟩ := o
  dsimp only at hc hdt hdx
  subst hc hdt hdx
  have hT : (⟨h, g, d, t, os⟩ : Shared).TypeIs (.ref f) "function" := ⟨_, hf, rfl⟩
  unfold Builtin.«object.__setattr__»
  repeat (first | rw [refuse_eq] | rw [hpass] | ((fail_if_success (with_reducible show wpAny _ _ (nsSet _ _ _) _ _ _)); wp_step))
  have hlt := Heap.lt_size hf
  have hxs : f ≠ h.objs.size := Nat.ne_of_lt hlt
  have hx₁ : (h.push { cls := .type "dict", data := .dict #[] }).get? f = some { cls := .type "function", data := .func fd, slots := osl } := Heap.get?_push_of_some _ hf
  generalize hH : (h.push { cls := .type "dict", data := .dict #[] }).update f (fun o => { cls := o.cls, dict := some h.objs.size, data := o.data, slots := o.slots }) = H
  have hgd : H.get? h.objs.size = some { cls := .type "dict", data := .dict #[] } := by
    rw [← hH]; exact (Heap.get?_update_ne _ _ _ _ hxs.symm).trans (Heap.get?_push_at rfl rfl)
  have hgf : H.get? f = some { cls := .type "function", dict := some h.objs.size, data := .func fd, slots := osl } := by
    rw [← hH]; exact Heap.get?_update_self _ hx₁ rfl
  have hk : ∀ b ob, b ≠ f → h.get? b = some ob → H.get? b = some ob := fun b ob hb e => by
    rw [← hH]; exact (Heap.get?_update_ne _ _ _ _ hb).trans (Heap.get?_push_of_some _ e)
  have hnd : H.Ns h.objs.size (fun _ => none) := ⟨_, #[], _, hgd, rfl, fun e he => absurd he (by simp), fun _ => rfl⟩
  refine wpAny_nsSet1 (Heap.Ns1.of_empty hnd) fun h' hn' hs => ?_
  obtain ⟨oD, esD, epD, hoD, hdD, hcD⟩ := hn'.count (Within.cons name v Within.nil)
  refine wpAny_bind (wpAny_lookBehind hoD (by rw [hdD]; exact pastItsLine_dict (Nat.le_trans hcD (by rw [List.length_cons, List.length_nil, sizeLine_eq]; omega))) ?_)
  wp_walk
  refine hq h' _ ((hs.2 f hxs).trans hgf) ?_ fun b ob hb e => (hs.2 b (Nat.ne_of_lt (Heap.lt_size e))).trans (hk b ob hb e)
  obtain ⟨o', es, ep, e1, e2, e3, eu, e4⟩ := hn'
  exact ⟨o', es, ep, e1, e2, e3, e4⟩
theorem fn_setAttr {o : Obj} {name : Str} {v : Value} {fd : FuncData} {Q : Unit → Shared → Prop} (hf : h.get? f = some o) (hc : o.cls = .type "function") (hdt : o.data = .func fd) (hdx : o.dict = none) (hnm : typeLookup (.type "function") name = pure none)
    (hq : ∀ h' tk', h'.get? f = some { o with dict := some h.objs.size } → h'.Ns h.objs.size (fun y => if y = name then some v else none) → (∀ b ob, b ≠ f → h.get? b = some ob → h'.get? b = some ob) → Q () ⟨h', g, d, tk', os⟩) :
    wpAny (model prog w) A (setAttr (.ref f) name v) Q E ⟨h, g, d, t, os⟩ := by
  have hT : (⟨h, g, d, t + 1, os⟩ : Shared).TypeIs (.ref f) "function" := ⟨_, hf, hc⟩
  have f1 := FF.store.slot.lookup
  have f3 := FF.store.slot.bind (.ref f)
  unfold setAttr callSpecial?
  repeat (any_goals (first | assumption | wp_step))
  refine codeAny_call_builtin FF.store.slot.plain FF.store.entry (fn_check hf hc (fn_set_entry hf hc hdt hdx hnm fun h' tk' h1 h2 h3 => ?_))
  repeat (any_goals (first | assumption | wp_step))
  exact hq h' tk' h1 h2 h3
end
section
variable {w : World} {hb h h' : Heap} {L : Addr} {m : Str → Option Value} {own own' : List (Addr × Cel)} {A : Around} {E : Value → Shared → Prop} {hp : Heap} {g : Array GenState} {d : Drawn} {tk : Nat} {os : OsState} {prog : Program}
theorem St.setsX (S : St hb h L m own) {a : Addr} {c c' : Cel} (U : Sets a c c' own own') (hx : Heap.ExtBut a h h') (hc : c'.At h' a) (hn : ∀ x, c' ≠ .ns x := by intro x e; cases e) : St hb h' L m own' := by
  obtain ⟨i, hi, rfl⟩ := U.ix
  have hm := List.mem_of_getElem? hi
  have hno := (S.has _ hm).2.none
  have hap : c'.Apart hb a := by
    cases c' with
    | ns x => exact absurd rfl (hn x)
    | _ => exact hno
  have heq : (own.set i (a, c')).map (·.1) = own.map (·.1) := by
    apply List.ext_getElem?
    intro j
    rw [List.getElem?_map, List.getElem?_map, List.getElem?_set]
    by_cases q : i = j
    · subst q
      rw [hi]
      have hl := (List.getElem?_eq_some_iff.mp hi).1
      simp [hl]
    · simp [q]
  refine ⟨fun b o e => hx b o (fun q => by subst q; rw [hno] at e; cases e) (S.keep b o e), S.fr.extBut hx (fun e => S.neL hm e.symm), S.above, fun p hp => ?_, by rw [heq]; exact S.nd⟩
  obtain ⟨j, hj⟩ := List.mem_iff_getElem?.mp hp
  rw [List.getElem?_set] at hj
  by_cases q : i = j
  · rw [if_pos q] at hj
    split at hj
    · cases hj; exact ⟨hc, hap⟩
    · cases hj
  · rw [if_neg q] at hj
    have hp' := List.mem_of_getElem? hj
    refine ⟨(S.has p hp').1.keep fun o e => hx _ o (fun e' => q ?_) e, (S.has p hp').2⟩
    have nd := (List.nodup_cons.mp S.nd).2
    have h1 : (own.map (·.1))[i]? = some a := by rw [List.getElem?_map, hi]; rfl
    have h2 : (own.map (·.1))[j]? = some a := by rw [List.getElem?_map, hj]; exact congrArg some e'
    exact (List.getElem?_inj (List.getElem?_eq_some_iff.mp h1).1 nd).mp (h1.trans h2.symm)
/-- f.read = v for a function of the ledger's -/
theorem setF {f : Addr} {o : Obj} {fd : FuncData} {v : Value} {own2 : Addr → List (Addr × Cel)} {Q : Unit → Shared → Prop} (S : St hb hp L m own) (U : ∀ dx, Sets f (.obj o) (.obj { o with dict := some dx }) own (own2 dx)) (hc : o.cls = .type "function") (hdt : o.data = .func fd) (hdx : o.dict = none)
    (h : ∀ h' tk' dx, St hb h' L m ((dx, .ns (fun y => if y = "read" then some v else none)) :: own2 dx) → Q () ⟨h', g, d, tk', os⟩) :
    wpAny (model prog w) A (setAttr (.ref f) "read" v) Q E ⟨hp, g, d, tk, os⟩ := by
  have hm := (U 0).old
  refine fn_setAttr (S.mem hm) hc hdt hdx FF.lk_read fun h' tk' h1 h2 h3 => h h' tk' hp.objs.size ?_
  have S1 : St hb h' L m (own2 hp.objs.size) := S.setsX (U _) (fun b ob hb e => h3 b ob hb e) h1
  refine S1.add (c := .ns _) h2 S.sz fun q => ?_
  have hl : ∀ dx, (own2 dx).map (·.1) = own.map (·.1) := fun dx => by
    have U' := U dx
    generalize own2 dx = z at U'
    clear h1 h2 h3 h S1 q S hm U
    induction U' with
    | head => rfl
    | tail _ ih => rw [List.map_cons, List.map_cons, ih]
  rw [hl] at q
  exact S.newAddr (Nat.le_refl _) q
theorem mthF {f dx : Addr} {o : Obj} {fd : FuncData} {v : Value} {md : Str → Option Value} {pl : Sem Bool} {Q : Value × List Value → Shared → Prop} (S : St hb hp L m own) (hf : (f, .obj o) ∈ own) (hd : (dx, .ns md) ∈ own) (hc : o.cls = .type "function") (hdt : o.data = .func fd) (hdx : o.dict = some dx) (hv : md "read" = some v) (hh : handedOut v = pure v)
    (h : ∀ tk', Q (v, []) ⟨hp, g, d, tk', os⟩) : wpAny (model prog w) A (getMethod (.ref f) "read" pl) Q E ⟨hp, g, d, tk, os⟩ :=
  fn_getMethod (S.mem hf) hc hdt hdx (S.mem hd) FF.lk_read hv hh (h _)
end
open PySem PySem.Calls PyProof.Rows PySem.W Builtin Builtin.ObjectAttr
namespace FC
theorem slot_next : Slot "callable_iterator" "__next__" "callable_iterator.__next__" :=
  .of (owner := "callable_iterator") (n := "__next__") (by rw [typeLookup_type, builtinLookup_eq_fast]; kernel_rfl) (by decide +kernel) (by decide +kernel) (by decide +kernel)
    (by first | exact .inl (by decide +kernel) | exact .inr (by decide +kernel)) (by rw [isSubtype_type]; kernel_rfl)
theorem entry_next : entryFor table "callable_iterator.__next__" = some Builtin.«callable_iterator.__next__» := entryFor_of_tree (by kernel_rfl)
theorem args_next (a : Value) : argsOk "callable_iterator.__next__" ⟨[a], []⟩ := by unfold argsOk; kernel_rfl
theorem slot_iter : Slot "callable_iterator" "__iter__" "callable_iterator.__iter__" :=
  .of (owner := "callable_iterator") (n := "__iter__") (by rw [typeLookup_type, builtinLookup_eq_fast]; kernel_rfl) (by decide +kernel) (by decide +kernel) (by decide +kernel)
    (by first | exact .inl (by decide +kernel) | exact .inr (by decide +kernel)) (by rw [isSubtype_type]; kernel_rfl)
theorem args_iter (a : Value) : argsOk "callable_iterator.__iter__" ⟨[a], []⟩ := by unfold argsOk; kernel_rfl
theorem entry_iter : entryFor table "callable_iterator.__iter__" = some Builtin.«dict_keyiterator.__iter__» :=
  entryFor_alias (id' := "dict_keyiterator.__iter__") (by kernel_rfl) (by first | rfl | decide +kernel | (unfold String.splitOn; simp +decide [String.splitOnAux])) (by decide +kernel) (by kernel_rfl)
theorem lk_call : typeLookup (.type "method") "__call__" = pure (some (.builtin "method.__call__")) := by rw [typeLookup_type, builtinLookup_eq_fast]; kernel_rfl
theorem entry_iterB : entryFor table "iter" = some Builtin.«iter» := entryFor_of_tree (by kernel_rfl)
theorem check_iter (a b : Value) : checkBuiltinCall "iter" ⟨[a, b], []⟩ = pure () := by kernel_rfl
theorem plain_iter : plainId "iter" = true := by decide +kernel
end FC
noncomputable abbrev Cel.ci (bm : Addr) (t : Tok) : Cel := .prd fun o => o.cls = .type "callable_iterator" ∧ o.data = .fields #[.ref bm, .str (st []) t, .bool false]
noncomputable abbrev Cel.ce : Cel := .prd fun o => o.cls = .type "callable_iterator" ∧ ∃ a b, o.data = .fields #[a, b, .bool true]
section
variable {w : World} {hb h h' : Heap} {L : Addr} {m : Str → Option Value} {own own' : List (Addr × Cel)} {A : Around} {E : Value → Shared → Prop} {hp : Heap} {g : Array GenState} {d : Drawn} {tk : Nat} {os : OsState} {prog : Program} {bm fi : Addr} {t : Tok}
theorem wpAny_callBorrowed {M : Model} {f : Value} {pos : List Value} {s : Shared} {Q : Value → Shared → Prop}
    (hc : codeAny M A (.call f ⟨pos, []⟩) (fun r s' => match r with | .ok (.ret v) => Q v s' | .ok _ => False | .error e => E e s') s) : wpAny M A (callBorrowed f pos) Q E s := fun Γ p hΓ => by
  have := hc _ p rfl (hΓ.enter (.call f ⟨pos, []⟩) none p (by intro x; cases x))
  unfold callBorrowed
  refine wpCode_mono (fun r s' x => ?_) this
  cases r with
  | error e => exact x
  | ok fl => cases fl <;> exact x
theorem iterC0 {s : Shared} {Q : Value → Shared → Prop} (S : St hb s.heap L m own) (hi : (fi, .ci bm t) ∈ own) (h : Q (.ref fi) s) : wpAny (model prog w) A (pyIter (.ref fi)) Q E s := by
  obtain ⟨o, ho, hc, hd⟩ := S.mem hi
  have hT : s.TypeIs (.ref fi) "callable_iterator" := ⟨_, ho, hc⟩
  refine wpAny_pyIter_slot hT FC.slot_iter (wpAny_call_entry FC.slot_iter hT FC.entry_iter ?_ (FC.args_iter _))
  show wpAny _ _ (ret (.ref fi)) _ _ s
  exact wpAny_pure ⟨_, rfl, "callable_iterator", _, hT, FC.slot_next.lookup, h⟩
theorem newC {self f : Value} {Q : Value → Shared → Prop} (S : St hb hp L m own) (hb' : (bm, .obj (methodObj f self)) ∈ own) (h : ∀ h' fi, St hb h' L m ((fi, .ci bm t) :: own) → Q (.ref fi) ⟨h', g, d, tk, os⟩) :
    wpAny (model prog w) A (call (.builtin "iter") [.ref bm, .str (st []) t]) Q E ⟨hp, g, d, tk, os⟩ := by
  have hT : (⟨hp, g, d, tk, os⟩ : Shared).TypeIs (.ref bm) "method" := ⟨_, S.mem hb', rfl⟩
  have f1 := FC.lk_call
  have := FC.check_iter (.ref bm) (.str (st []) t)
  refine wpAny_call (codeAny_call_builtin FC.plain_iter FC.entry_iterB (wpAny_of_eq this ?_))
  have h2 := h _ _ (S.push (c := .ci bm t) { cls := .type "callable_iterator", data := .fields #[.ref bm, .str (st []) t, .bool false] } ⟨_, Heap.get?_push_size _ rfl, rfl, rfl⟩)
  unfold Builtin.«iter»
  refine wpAny_bind (wpAny_of_eq (a := [.ref bm, .str (st []) t]) rfl ?_)
  dsimp only
  refine wpAny_bind (wpAny_specialOf hT f1 ?_)
  show wpAny _ _ (if false = true then _ else _) _ _ _
  rw [if_neg Bool.false_ne_true]
  refine wpAny_bind (wpAny_rule ?_)
  refine wpAny_bind (wpAny_newObj_type ?_ (by size_fits))
  exact wpAny_pure h2
theorem setFld {M : Model} {a : Addr} {o : Obj} {vs : Array Value} {i : Nat} {x : Value} {Q : Unit → Shared → Prop} (ho : hp.get? a = some o) (hd : o.data = .fields vs) (hi : i < vs.size)
    (h : ∀ h' o', h'.get? a = some o' → o'.cls = o.cls → o'.data = .fields (vs.setIfInBounds i x) → Heap.SameBut a hp h' → Q () ⟨h', g, d, tk, os⟩) : wpAny M A (setField (.ref a) i x) Q E ⟨hp, g, d, tk, os⟩ :=
  wpAny_setField ho hd hi (h _ _ (Heap.get?_update_self _ ho (Obj.isFreed_of_fields (Obj.data_mapFields hd _))) (Obj.cls_mapFields ..) (Obj.data_mapFields hd _) (Heap.SameBut.update ..))
/-- the iterator that has ended -/
theorem endC {Q : Option Value → Shared → Prop} (hA : A.handled = none) (S : St hb hp L m own) (hi : (fi, .ce) ∈ own) (h : ∀ h', St hb h' L m own → Q none ⟨h', g, d, tk, os⟩) : wpAny (model prog w) A (pyNext (.ref fi)) Q E ⟨hp, g, d, tk, os⟩ := by
  obtain ⟨o, ho, hc, a, b, hd⟩ := S.mem hi
  have hT : (⟨hp, g, d, tk, os⟩ : Shared).TypeIs (.ref fi) "callable_iterator" := ⟨_, ho, hc⟩
  unfold pyNext
  refine wpAny_bind (wpAny_attempt (wpAny_callSpecial?_slot (name := Str.ofString "__next__") hT FC.slot_next
    (wpAny_call_entry FC.slot_next hT FC.entry_next ?_ (FC.args_next _))))
  unfold Builtin.«callable_iterator.__next__»
  refine wpAny_bind (wpAny_of_eq (a := (Value.ref fi, [])) rfl ?_)
  dsimp only
  refine wpAny_bind (wpAny_field ho hd (x := .bool true) rfl ?_)
  rw [if_pos (by decide)]
  refine wpAny_bind (wpAny_rule ?_)
  refine wpAny_bind ?_
  unfold SmallTypes.stopIteration
  refine wpAny_bind ?_
  simp only [newExc, newTuple]
  refine wpAny_bind (wpAny_newObj_type ?_ (by size_fits))
  refine wpAny_bind (m := firstArgMember _ _) (wpAny_of_eq (a := Value.none) (by first | rfl | (simp only [firstArgMember]; rfl)) ?_)
  refine wpAny_newObj_type ?_ (by size_fits)
  simp only [raiseNew]
  refine wpAny_bind (wpAny_handled ?_)
  rw [show A.in1.handled = none from hA]
  refine wpAny_bind (wpAny_pure (wpAny_throw ?_))
  refine wpAny_bind (wpAny_isInstance (T := "StopIteration") (b := true) ⟨_, Heap.get?_push_size _ rfl, rfl⟩ isSubtype_stop ?_)
  exact wpAny_pure (h _ ((S.push0 _).push0 _))
/-- a turn of iter(f, '') -/
theorem nextC {f x : Addr} {fo : Obj} {fd : FuncData} {Q : Option Value → Shared → Prop} (hA : A.handled = none) (S : St hb hp L m own) (hi : (fi, .ci bm t) ∈ own) (hb' : (bm, .obj (methodObj (.ref f) (.ref x))) ∈ own) (hf : hb.get? f = some fo) (hfd : fo.data = .func fd)
    (h : codeAny (model PG w) A.in1 (.call (.ref f) ⟨[.ref x], []⟩) (fun r s' => match r with
      | .ok (.ret v) => ∃ h' tk' a t' own2, v = .str (st a) t' ∧ s' = ⟨h', g, d, tk', os⟩ ∧ St hb h' L m own2 ∧ (fi, .ci bm t) ∈ own2 ∧ (bm, .obj (methodObj (.ref f) (.ref x))) ∈ own2 ∧
        (a ≠ [] → Q (some v) s') ∧ (a = [] → ∃ own3, Sets fi (.ci bm t) .ce own2 own3 ∧ ∀ h'', St hb h'' L m own3 → Q none ⟨h'', g, d, tk', os⟩)
      | _ => False) ⟨hp, g, d, tk, os⟩) : wpAny (model PG w) A (pyNext (.ref fi)) Q E ⟨hp, g, d, tk, os⟩ := by
  obtain ⟨o, ho, hc, hd⟩ := S.mem hi
  have hbm := S.mem hb'
  have hff := S.keep _ _ hf
  have hT : (⟨hp, g, d, tk, os⟩ : Shared).TypeIs (.ref fi) "callable_iterator" := ⟨_, ho, hc⟩
  unfold pyNext
  refine wpAny_bind (wpAny_attempt (wpAny_callSpecial?_slot (name := Str.ofString "__next__") hT FC.slot_next
    (wpAny_call_entry FC.slot_next hT FC.entry_next ?_ (FC.args_next _))))
  unfold Builtin.«callable_iterator.__next__»
  refine wpAny_bind (wpAny_of_eq (a := (Value.ref fi, [])) rfl ?_)
  dsimp only
  refine wpAny_bind (wpAny_field ho hd (x := .bool false) rfl ?_)
  rw [if_neg (by decide)]
  refine wpAny_bind (wpAny_field ho hd (x := .ref bm) rfl ?_)
  have hbor : ∀ {A : Around} {E : Value → Shared → Prop} {Q : Bool → Shared → Prop} {s : Shared}, s.heap.get? bm = some (methodObj (.ref f) (.ref x)) → s.heap.get? f = some fo → Q true s → wpAny (model PG w) A (borrowsExactly (.ref bm)) Q E s := by
    intro A E Q s h1 h2 h3
    unfold borrowsExactly
    dsimp only
    refine wpAny_bind (wpAny_load h1 ?_)
    dsimp only
    rw [if_pos (by decide)]
    refine wpAny_bind (wpAny_load h2 ?_)
    rw [hfd]
    exact wpAny_pure h3
  refine wpAny_bind (wpAny_attempt ?_)
  unfold callOutOfASlot
  refine wpAny_bind (hbor hbm hff ?_)
  rw [if_pos rfl]
  refine wpAny_callBorrowed (method_call hbm (codeAny_mono h fun r s' hr => ?_))
  rcases r with e | (_ | _ | _ | v)
  · exact hr.elim
  · exact hr.elim
  · exact hr.elim
  · exact hr.elim
  obtain ⟨h', tk', a, t', own2, rfl, rfl, S2, hi2, hb2, hne, hnil⟩ := hr
  obtain ⟨o2, ho2, hc2, hd2⟩ := S2.mem hi2
  dsimp only
  refine wpAny_bind (wpAny_field ho2 hd2 (x := .bool false) rfl ?_)
  rw [if_neg (by decide)]
  refine wpAny_bind (wpAny_field ho2 hd2 (x := .str (st []) t) rfl ?_)
  refine wpAny_bind (wpAny_holding (eqBool_str ?_))
  by_cases ha : a = []
  · subst ha
    rw [if_neg (by simp)]
    refine wpAny_bind (wpAny_rule ?_)
    refine wpAny_bind ?_
    wp_delta
    refine wpAny_bind (wpAny_field ho2 hd2 (x := .ref bm) rfl ?_)
    refine wpAny_bind ?_
    unfold slotLetsGo
    dsimp only
    refine wpAny_bind (hbor (S2.mem hb2) (S2.keep _ _ hf) ?_)
    rw [if_pos rfl]
    refine wpAny_pure ?_
    refine wpAny_bind (setFld ho2 hd2 (by simp) fun h3 o3 ho3 hc3 hd3 hs3 => ?_)
    refine wpAny_bind (setFld ho3 hd3 (by simp) fun h4 o4 ho4 hc4 hd4 hs4 => ?_)
    refine setFld ho4 hd4 (by simp) fun h5 o5 ho5 hc5 hd5 hs5 => ?_
    obtain ⟨own3, U, hq⟩ := hnil rfl
    have S3 : ∀ h'', Heap.ExtBut fi h5 h'' → h''.get? fi = some o5 → St hb h'' L m own3 := fun h'' hx hf' =>
      S2.setsX U (fun b ob hb e => hx b ob hb ((hs5.extBut b ob hb (hs4.extBut b ob hb (hs3.extBut b ob hb e))))) ⟨o5, hf', hc5.trans (hc4.trans (hc3.trans hc2)), _, _, by rw [hd5]; simp; exact ⟨rfl, rfl⟩⟩
    unfold SmallTypes.stopIteration
    refine wpAny_bind ?_
    simp only [newExc, newTuple]
    refine wpAny_bind (wpAny_newObj_type ?_ (by size_fits))
    refine wpAny_bind (m := firstArgMember _ _) (wpAny_of_eq (a := Value.none) (by first | rfl | (simp only [firstArgMember]; rfl)) ?_)
    refine wpAny_newObj_type ?_ (by size_fits)
    simp only [raiseNew]
    refine wpAny_bind (wpAny_handled ?_)
    rw [show A.in1.handled = none from hA]
    refine wpAny_bind (wpAny_pure (wpAny_throw ?_))
    refine wpAny_bind (wpAny_isInstance (T := "StopIteration") (b := true) ⟨_, Heap.get?_push_size _ rfl, rfl⟩ isSubtype_stop ?_)
    exact wpAny_pure (hq _ (S3 _ (((Heap.ExtBut.refl _ _).push _).push _) (Heap.get?_push_of_some _ (Heap.get?_push_of_some _ ho5))))
  · have e1 : (st [] == st a) = false := by
      rw [beq_eq_false_iff_ne]
      exact fun e => ha (st_inj e).symm
    rw [e1, if_pos (by decide)]
    exact wpAny_pure ⟨_, rfl, wpAny_pure (hne ha)⟩
end
section
variable {w : World} {hb h h' : Heap} {L : Addr} {m : Str → Option Value} {own own' bs : List (Addr × Cel)} {A : Around} {E : Value → Shared → Prop} {hp : Heap} {g : Array GenState} {d : Drawn} {tk : Nat} {os : OsState} {env : Env} {l : Addr} {vs : List Value}
theorem St.perm (S : St hb h L m own) (hpm : own.Perm own') : St hb h L m own' :=
  ⟨S.keep, S.fr, S.above, fun p hp => S.has p (hpm.mem_iff.mpr hp), (List.Perm.nodup_iff (List.Perm.cons L (hpm.map _))).mp S.nd⟩
theorem sw_tail (pre : List (Addr × Cel)) : ∀ bs', Sw bs bs' (pre ++ bs) (pre ++ bs') := by
  induction pre with
  | nil => exact fun _ => .here
  | cons p pre ih => exact fun bs' => .there (ih bs')
/-- list(text) -/
theorem lstS {a : List Nat} {t : Tok} {Q : Value → Shared → Prop} (hh : A.handled = none) (S : St hb hp L m own) (hz : a.length < 1000000) (h : ∀ h' tk' ll lv, St hb h' L m ((ll, .lst lv) :: own) → lv.map sval = a.map (fun c => some [c]) → Q (.ref ll) ⟨h', g, d, tk', os⟩) :
    wpAny (model PG w) A (call (.type "list") [.str (st a) t]) Q E ⟨hp, g, d, tk, os⟩ := by
  refine call_list_str hh (st a) t (fun h' tk' acc c' hk hl hi => ?_) (by
    have z : sizeLine = 16777216 := by decide
    show (st a).length ≤ _
    rw [st_len]; omega)
  have S1 : St hb h' L m ((hp.objs.size, .lst acc.toList) :: own) := (S.ext hk).add (c := .lst acc.toList) ⟨c', hl⟩ (Cel.Apart.of_le S.sz) (S.newAddr (Nat.le_refl _))
  refine h _ _ _ _ S1 ?_
  have hsz : acc.size = a.length := by rw [hi.1]; simp [st]
  apply List.ext_getElem?
  intro i
  rw [List.getElem?_map, List.getElem?_map, Array.getElem?_toList]
  cases q : acc[i]? with
  | none =>
    have : a[i]? = none := List.getElem?_eq_none (by rw [← hsz]; exact Array.getElem?_eq_none_iff.mp q)
    rw [this]; rfl
  | some v =>
    obtain ⟨c, u, hc, rfl⟩ := hi.2 i v q
    have : a[i]? = some c := by simpa [st] using hc
    rw [this]
    rfl
/-- a second entry of a code table -/
theorem mkL2 {M : Model} {name qual : Str} {params : Arguments} {body : PySem.Expr} {scope : Scope} {c P : Addr} {ps : Array Value} {pos : Pos} {firstLine : Nat} {clos : List (Str × Addr)} {own2 : List (Addr × Cel) → List (Addr × Cel)} {Q : Value → Shared → Prop}
    (B : Bs w hb) (S : St hb hp L m own) (hW : ∀ bs', Sw [(P, .obj (tabObj ps))] bs' own (own2 bs')) (ht : TriplesOk ps.toList) (hn : codeAmong pos ps.toList = none) (C : CodeHd hb c P) (hcl : closureFor scope env = pure clos)
    (h : ∀ f c' oc pm ctv h' tk' ps', St hb h' L m ((f, .obj (kla_obj name qual params body scope clos pm c' ctv)) :: own2 [(c', .obj oc), (P, .obj (tabObj ps'))]) → Q (.ref f) ⟨h', g, d, tk', os⟩)
    (hcode : env.code = .ref c := by rfl) (hge : env.globals = mainGlobals := by rfl) :
    wpAny M A (makeFunction name qual params (.expr body) scope env [] [] [] pos firstLine) Q E ⟨hp, g, d, tk, os⟩ := by
  have hP : (P, Cel.obj (tabObj ps)) ∈ [(P, Cel.obj (tabObj ps))] := .head _
  have hPo := (hW []).mem hP
  obtain ⟨mg, k1, k2, k3⟩ := bmAt B S hPo
  refine kla_makeFunction (mg := mg) hcl hge k1 hcode (C.keeps S.keep) (S.mem hPo) ht hn k3 k2 fun c' ctv h' tk' hx hge hlt hrec htb => ?_
  obtain ⟨c₂, oc, vs, t, e2, hoc, hd, hv⟩ := hrec
  cases e2
  have W : Sw [(P, Cel.obj (tabObj ps))] ((c', .obj oc) :: swp P (tabObj (ps ++ #[rawInt pos.line, rawInt pos.col, .ref c'])) [(P, Cel.obj (tabObj ps))]) own (own2 [(c', .obj oc), (P, .obj (tabObj (ps ++ #[rawInt pos.line, rawInt pos.col, .ref c'])))]) := by
    have e : swp P (tabObj (ps ++ #[rawInt pos.line, rawInt pos.col, .ref c'])) [(P, Cel.obj (tabObj ps))] = [(P, .obj (tabObj (ps ++ #[rawInt pos.line, rawInt pos.col, .ref c'])))] := by simp [swp]
    rw [e]; exact hW _
  exact h _ c' oc _ ctv _ _ _ ((S.swp W hP hx hge htb hoc).push _ (Heap.get?_push_size _ rfl))
end
structure RdOk (w : World) (hb : Heap) (fro : Obj) (fr c' : Addr) (oc : Obj) (cl : Addr) : Prop where
  call : ∀ {A : Around} {E : Value → Shared → Prop} {hp : Heap} {g : Array GenState} {d : Drawn} {tk : Nat} {os : OsState} {Q : Value → Shared → Prop} {L : Addr} {m : Str → Option Value} {own : List (Addr × Cel)} {own2 : List Value → List (Addr × Cel)} {ll : Addr} {lv : List Value} {v : Value},
    (fr, Cel.obj fro) ∈ own → (c', Cel.obj oc) ∈ own → (cl, Cel.cel (some (.ref ll))) ∈ own → (∀ lv', Sets ll (.lst lv) (.lst lv') own (own2 lv')) → St hb hp L m own → A.depth + 3 < recursionLimit → lv.length ≤ 100000 →
    (∀ h' tk' t', lv = [] → St hb h' L m own → Q (.str (st []) t') ⟨h', g, d, tk', os⟩) → (∀ h' tk' v lv', lv = v :: lv' → St hb h' L m (own2 lv') → Q v ⟨h', g, d, tk', os⟩) → wpAny (model PG w) A (PySem.call (.ref fr) [v]) Q E ⟨hp, g, d, tk, os⟩
  fn : ∃ fd, fro.data = .func fd
structure Lx where
  (x dx lp ll cl fr c' sf sd : Addr)
  (oc fro sfo : Obj)
noncomputable def Lx.seg (X : Lx) (lv pv : List Value) (fs : List (Str × Value)) : List (Addr × Cel) :=
  [(X.lp, .lst pv), (X.x, .ins 185 X.dx), (X.dx, .dct fs), (X.sd, .ns (fun y => if y = "read" then some (.ref X.fr) else none)), (X.sf, .obj X.sfo), (X.c', .obj X.oc), (X.fr, .obj X.fro), (X.ll, .lst lv), (X.cl, .cel (some (.ref X.ll)))]
structure LxOk (w : World) (hb : Heap) (X : Lx) : Prop where
  rd : RdOk w hb X.fro X.fr X.c' X.oc X.cl
  sfc : X.sfo.cls = .type "function"
  sff : ∃ fd, X.sfo.data = .func fd
  sfd : X.sfo.dict = some X.sd
structure LxSt (X : Lx) (left : List Nat) (pb : List (List Nat)) (tot : Nat) (lv pv : List Value) (fs : List (Str × Value)) : Prop where
  l : lv.map sval = left.map fun c => some [c]
  p : pv.map sval = pb.map some
  f1 : ∃ t, ∃ line : Nat, fs.lookup ("lineno" : Str) = some (.int (line : Nat) t) ∧ line + left.count 10 = tot
  f2 : fs.lookup ("instream" : Str) = some (.ref X.sf)
  f3 : ∃ t, fs.lookup ("whitespace" : Str) = some (.str (st [10, 9, 13, 32]) t)
  f4 : fs.lookup ("pushback" : Str) = some (.ref X.lp)
  f5 : fs.lookup ("_read_char" : Str) = none ∧ fs.lookup ("get_token" : Str) = none ∧ fs.lookup ("push_token" : Str) = none
  f6 : fs.length ≤ 10
  lz : left.length ≤ 100000
  pz : pb.length ≤ 1000
theorem lexer_spec {w : World} {hb : Heap} {L : Addr} {m : Str → Option Value} {own : List (Addr × Cel)} {A : Around} {E : Value → Shared → Prop} {hp : Heap} {g : Array GenState} {d : Drawn} {tk : Nat} {os : OsState} {Q : Value → Shared → Prop} (B : Bs w hb)
    (S : St hb hp L m ((196, .obj (tabObj #[])) :: own)) {a : List Nat} {t : Tok} (hz : a.length ≤ 100000) (hr : A.depth + 30 < recursionLimit) (hA : A.handled = none)
    (hQ : ∀ h' tk' X lv pv fs ps, LxOk w hb X → LxSt X a [] (1 + a.count 10) lv pv fs → St hb h' L m (X.seg lv pv fs ++ ((196, .obj (tabObj ps)) :: own)) → Q (.ref X.x) ⟨h', g, d, tk', os⟩) :
    wpAny (model PG w) A (PySem.call (.ref 201) [.str (st a) t]) Q E ⟨hp, g, d, tk, os⟩ := by
  refine wpAny_call ?_
  refine callKC (binds := [("text", .str (st a) t)]) B S (by rfl) (by rfl) (by omega) (.of_eq rfl) (by rfl) (by decide +kernel) (fun h1 L1 tk1 S1 => genR fun RF hRF => ?_)
  have S : St hb h1 L1 (fun y => if y = "text" then some (.str (st a) t) else none) ((L1 + 1, .cel none) :: (L, .ns m) :: (own ++ [(196, .obj (tabObj #[]))])) := St.perm S1 (by
    show List.Perm ([(L1 + 1, Cel.cel none), (L, Cel.ns m)] ++ (196, Cel.obj (tabObj #[])) :: own) _
    exact List.Perm.append_left [(L1 + 1, Cel.cel none), (L, Cel.ns m)] (List.perm_append_singleton _ _).symm)
  clear S1
  walk_at "ww"
  refine lstS (by exact hA) S (by omega) ?_
  intro h tk ll lv S hlv
  walk_at "ww"
  refine mkF B S (fun bs' => by exact sw_tail (_ :: _ :: _ :: own) bs') (.inl (.head _)) B.code.2.1 (by rfl) ?_ (by rfl) (by rfl)
  intro bs1 fr c1 oc ws t0 doc pm ctv h tk hbs hT hcm hd hv S
  have hbs1 : bs1 = [(c1, Cel.obj oc), (196, Cel.obj (codeTab 205 4 c1))] := by
    rcases hbs with rfl | ⟨o, rfl, _, rfl⟩
    · exfalso
      have e := List.mem_singleton.mp hcm
      cases e
      cases hd
      cases hv
    · simp [swp]
  subst hbs1
  generalize hfo : fnMade _ _ _ _ _ _ _ _ _ _ = fro at S
  obtain ⟨fd, hfd⟩ : ∃ fd, fro.data = .func fd := ⟨_, by rw [← hfo]⟩
  have hrd : RdOk w hb fro fr c1 oc (L1 + 1) := by
    refine ⟨?_, fd, hfd⟩
    intro A' E' hp' g' d' tk' os' Q' L' m' own' own2 ll lv v q1 q2 q3 hU S hr' hz' h1 h2
    rw [← hfo] at q1
    have hl := (hU lv).old
    refine wpAny_call ?_
    refine callN (binds := [("size", v)]) B S q1 q2 hd hv (by omega) (.of_eq rfl) (by rfl) (fun h1 L1 tk1 S1 => genR fun RF hRF => ?_)
    clear S
    walk_at "ww"
    cases lv with
    | nil =>
      walk_at "ww"
      exact h1 _ _ _ rfl S1.leave
    | cons v lv =>
      walk_at "ww"
      have hz2 : lv.length + 1 ≤ 100000 := hz'
      refine popL S1 (.tail (hU _)) ?_ (by walk_at "szl")
      intro h S
      walk_at "ww"
      exact h2 _ _ _ _ rfl S.leave
  clear hfo
  have S : St hb h L1 _ ((c1, Cel.obj oc) :: (fr, Cel.obj fro) :: (ll, Cel.lst lv) :: (L1 + 1, Cel.cel (some (.ref ll))) :: (L, Cel.ns m) :: (own ++ [(196, Cel.obj (codeTab 205 4 c1))])) := S.perm (by
    have := List.perm_middle (l₁ := (fr, Cel.obj fro) :: (ll, Cel.lst lv) :: (L1 + 1, Cel.cel (some (.ref ll))) :: (L, Cel.ns m) :: own) (l₂ := [(196, Cel.obj (codeTab 205 4 c1))]) (a := (c1, Cel.obj oc))
    simpa using this)
  walk_at "ww"
  refine mkL2 B S (fun bs' => by exact sw_tail ((c1, Cel.obj oc) :: (fr, Cel.obj fro) :: (ll, Cel.lst lv) :: (L1 + 1, Cel.cel (some (.ref ll))) :: (L, Cel.ns m) :: own) bs') (by exact trivial) (by rfl) B.code.2.1 (by rfl) ?_ (by rfl) (by rfl)
  intro sf c2 oc2 pm2 ctv2 h tk o2 S
  generalize hsf : kla_obj _ _ _ _ _ _ _ _ _ = sfo at S
  have hsc : sfo.cls = .type "function" := by rw [← hsf]
  obtain ⟨sfd, hsd⟩ : ∃ fd, sfo.data = .func fd := ⟨_, by rw [← hsf]⟩
  have hsn : sfo.dict = none := by rw [← hsf]
  clear hsf
  walk_at "ww"
  refine setF (own2 := fun dx => (sf, Cel.obj { sfo with dict := some dx }) :: _) S (fun dx => Sets.head) hsc hsd hsn ?_
  intro h tk sd S
  walk_at "ww"
  refine wpAny_call ?_
  refine makeA B S ?_
  intro x dx h S
  refine callK (binds := [("self", .ref x), ("fp", .ref sf)]) B S (by rfl) (by rfl) (by
    have := weight_mk 185 [.ref sf]
    show A.depth + 1 + Code.weight _ < _
    omega) (.of_eq rfl) (by rfl) (fun h1 L2 tk1 S => ?_)
  walk_at "ww"
  refine ⟨rfl, ?_⟩
  refine hRv _ _ (hRF _ _ ?_)
  have S := St.leaveP [(_, Cel.lst [])] S
  have S := St.leaveP [_, _, _, _, _, _, _, _, _] S
  obtain ⟨lp, u1, u2, S⟩ : ∃ lp u1 u2, St hb h L m ([(lp, Cel.lst []), (x, .ins 185 dx), (dx, .dct (putF "pushback" (.ref lp) (putF "whitespace" (.str (st [10, 9, 13, 32]) u2) (putF "instream" (.ref sf) (putF "lineno" (.int 1 u1) []))))), (sd, .ns (fun y => if y = "read" then some (.ref fr) else none)),
      (sf, .obj { sfo with dict := some sd }), (c1, .obj oc), (fr, .obj fro), (ll, .lst lv), (L1 + 1, .cel (some (.ref ll)))] ++ ((196, .obj (tabObj o2)) :: own)) :=
    ⟨_, _, _, (S.sub (own' := [_, _, _, _, _, _, _, _, _] ++ (own ++ [(196, .obj (tabObj o2))])) (List.Sublist.append_left (List.Sublist.append_left (List.Sublist.cons _ (List.Sublist.refl _)) _) _)).perm (List.Perm.append_left _ (List.perm_append_singleton _ _))⟩
  exact hQ _ _ ⟨x, dx, lp, ll, L1 + 1, fr, c1, sf, sd, oc, fro, { sfo with dict := some sd }⟩ lv [] _ o2 ⟨hrd, hsc, ⟨_, hsd⟩, rfl⟩ ⟨hlv, rfl, ⟨u1, 1, rfl, rfl⟩, rfl, ⟨u2, rfl⟩, rfl, ⟨rfl, rfl, rfl⟩, Nat.le_of_ble_eq_true rfl, hz, Nat.zero_le _⟩ S
structure LxO (X : Lx) (o : List Value → List Value → List (Str × Value) → List (Addr × Cel)) : Prop where
  uL : ∀ a a' p f, Sets X.ll (.lst a) (.lst a') (o a p f) (o a' p f)
  uP : ∀ a p p' f, Sets X.lp (.lst p) (.lst p') (o a p f) (o a p' f)
  uD : ∀ a p f f', Sets X.dx (.dct f) (.dct f') (o a p f) (o a p f')
  mx : ∀ a p f, (X.x, .ins 185 X.dx) ∈ o a p f
  mc : ∀ a p f, (X.cl, .cel (some (.ref X.ll))) ∈ o a p f
  mf : ∀ a p f, (X.fr, .obj X.fro) ∈ o a p f
  mo : ∀ a p f, (X.c', .obj X.oc) ∈ o a p f
  ms : ∀ a p f, (X.sf, .obj X.sfo) ∈ o a p f
  md : ∀ a p f, (X.sd, .ns (fun y => if y = "read" then some (.ref X.fr) else none)) ∈ o a p f
theorem LxO.up {X : Lx} {o : List Value → List Value → List (Str × Value) → List (Addr × Cel)} (O : LxO X o) (q : Addr × Cel) : LxO X (fun a p f => q :: o a p f) :=
  ⟨fun _ _ _ _ => .tail (O.uL ..), fun _ _ _ _ => .tail (O.uP ..), fun _ _ _ _ => .tail (O.uD ..), fun _ _ _ => .tail _ (O.mx ..), fun _ _ _ => .tail _ (O.mc ..), fun _ _ _ => .tail _ (O.mf ..), fun _ _ _ => .tail _ (O.mo ..), fun _ _ _ => .tail _ (O.ms ..), fun _ _ _ => .tail _ (O.md ..)⟩
theorem LxO.seg (X : Lx) (rest : List (Addr × Cel)) : LxO X (fun a p f => X.seg a p f ++ rest) where
  uL := fun a a' p f => by show Sets _ _ _ (_ :: _ :: _ :: _ :: _ :: _ :: _ :: _ :: _ :: rest) _; exact .tail (.tail (.tail (.tail (.tail (.tail (.tail .head))))))
  uP := fun a p p' f => by show Sets _ _ _ (_ :: _ :: _ :: _ :: _ :: _ :: _ :: _ :: _ :: rest) _; exact .head
  uD := fun a p f f' => by show Sets _ _ _ (_ :: _ :: _ :: _ :: _ :: _ :: _ :: _ :: _ :: rest) _; exact .tail (.tail .head)
  mx := fun a p f => List.mem_append_left _ (by unfold Lx.seg; simp)
  mc := fun a p f => List.mem_append_left _ (by unfold Lx.seg; simp)
  mf := fun a p f => List.mem_append_left _ (by unfold Lx.seg; simp)
  mo := fun a p f => List.mem_append_left _ (by unfold Lx.seg; simp)
  ms := fun a p f => List.mem_append_left _ (by unfold Lx.seg; simp)
  md := fun a p f => List.mem_append_left _ (by unfold Lx.seg; simp)
theorem lookup_putF {n k : Str} {v : Value} : ∀ {fs : List (Str × Value)}, (putF n v fs).lookup k = if k = n then some v else fs.lookup k
  | [] => by
    unfold putF
    by_cases e : k = n
    · subst e; simp
    · have : (k == n) = false := by simpa using e
      simp [List.lookup_cons, e, this]
  | (q, x) :: r => by
    have ih := @lookup_putF n k v r
    unfold putF
    by_cases e : q = n
    · subst e
      simp only [if_true]
      by_cases e2 : k = q
      · subst e2; simp
      · have : (k == q) = false := by simpa using e2
        simp [List.lookup_cons, e2, this]
    · simp only [e, if_false, List.lookup_cons]
      by_cases e2 : k = q
      · subst e2
        simp [e]
      · have : (k == q) = false := by simpa using e2
        simp only [this]
        exact ih
theorem length_putF {n : Str} {v : Value} : ∀ {fs : List (Str × Value)}, fs.lookup n ≠ none → (putF n v fs).length = fs.length
  | [], h => absurd rfl h
  | (q, x) :: r, h => by
    unfold putF
    by_cases e : q = n
    · simp [e]
    · simp only [e, if_false, List.length_cons]
      rw [length_putF]
      rw [List.lookup_cons] at h
      have : (n == q) = false := by simpa using fun e' => e e'.symm
      rw [this] at h
      exact h
theorem LxSt.line {X : Lx} {left : List Nat} {pb : List (List Nat)} {tot0 tot : Nat} {lv pv : List Value} {fs : List (Str × Value)} {line : Nat} {t : Tok} (H : LxSt X left pb tot0 lv pv fs) (hl : line + left.count 10 = tot) : LxSt X left pb tot lv pv (putF "lineno" (.int (line : Nat) t) fs) where
  l := H.l
  p := H.p
  f1 := ⟨t, line, by rw [lookup_putF, if_pos rfl], hl⟩
  f2 := by rw [lookup_putF, if_neg (by decide)]; exact H.f2
  f3 := by rw [lookup_putF, if_neg (by decide)]; exact H.f3
  f4 := by rw [lookup_putF, if_neg (by decide)]; exact H.f4
  f5 := by
    rw [lookup_putF, if_neg (by decide), lookup_putF, if_neg (by decide), lookup_putF, if_neg (by decide)]; exact H.f5
  f6 := by
    obtain ⟨t', l', e, _⟩ := H.f1
    rw [length_putF (by rw [e]; exact Option.some_ne_none _)]; exact H.f6
  lz := H.lz
  pz := H.pz
theorem readc_spec {w : World} {hb : Heap} {L : Addr} {m : Str → Option Value} {A : Around} {R : Result → Shared → Prop} {hp : Heap} {g : Array GenState} {d : Drawn} {tk : Nat} {os : OsState} (B : Bs w hb)
    {X : Lx} {o : List Value → List Value → List (Str × Value) → List (Addr × Cel)} {left : List Nat} {pb : List (List Nat)} {tot : Nat} {lv pv : List Value} {fs : List (Str × Value)} (Ok : LxOk w hb X) (O : LxO X o) (H : LxSt X left pb tot lv pv fs) (S : St hb hp L m (o lv pv fs)) (hr : A.depth + 20 < recursionLimit)
    (hR : ∀ h' tk' t' lv' fs', LxSt X (left.drop 1) pb tot lv' pv fs' → St hb h' L m (o lv' pv fs') → R (.ok (.ret (.str (st (left.take 1)) t'))) ⟨h', g, d, tk', os⟩) :
    codeAny (model PG w) A (.call (.ref 168) ⟨[.ref X.x], []⟩) R ⟨hp, g, d, tk, os⟩ := by
  refine callK (binds := [("self", .ref X.x)]) B S (by rfl) (by rfl) (by omega) (.of_eq rfl) (by rfl) (fun h1 L1 tk1 S => genR fun RF hRF => ?_)
  have mX := O.mx lv pv fs
  have mD := (O.uD lv pv fs fs).old
  have hf2 := H.f2
  obtain ⟨fdS, hfdS⟩ := Ok.sff
  have hrd := Ok.rd
  obtain ⟨fdR, hfdR⟩ := hrd.fn
  have mF := O.mf lv pv fs
  have hlz := H.lz
  have hll : lv.length = left.length := by simpa using congrArg List.length H.l
  walk_at "ww"
  refine mthF S (.tail _ (O.ms lv pv fs)) (.tail _ (O.md lv pv fs)) Ok.sfc hfdS Ok.sfd (by rfl) rfl ?_
  intro tk
  walk_at "ww"
  refine hrd.call (.tail _ mF) (.tail _ (O.mo lv pv fs)) (.tail _ (O.mc lv pv fs)) (own2 := fun lv' => (L, Cel.ns m) :: o lv' pv fs) (fun lv' => .tail (O.uL lv lv' pv fs)) S (by show A.depth + 1 + 3 < _; omega) (by omega) ?_ ?_
  · intro h tk t e S
    subst e
    have hl0 : left = [] := List.eq_nil_of_length_eq_zero (by simpa using hll.symm)
    subst hl0
    walk_at "ww"
    exact hR _ _ _ [] fs H S.leave
  · rintro h tk v lv' rfl S
    obtain ⟨c, left, rfl⟩ : ∃ c r, left = c :: r := by
      cases left with
      | nil => cases hll
      | cons c r => exact ⟨c, r, rfl⟩
    have hl := H.l
    rw [List.map_cons, List.map_cons] at hl
    obtain ⟨hv1, hv2⟩ := List.cons.inj hl
    obtain ⟨tv, rfl⟩ := sval_some hv1
    obtain ⟨tl, line, hline, htot⟩ := H.f1
    walk_at "ww"
    refine if_s (fun hc => ?_) (fun hc => ?_)
    · have hc : c = 10 := by simpa using hc
      subst hc
      rw [List.count_cons_self] at htot
      have mX := O.mx lv' pv fs
      have mD := (O.uD lv' pv fs fs).old
      walk_at "w"
      refine wpAny_AugAssign_AttributeAny ?_
      walk_at "ww"
      refine iaddI ?_
      intro t tk
      refine setA B S (.tail _ mX) (.tail (O.uD _ _ _ _)) (Nat.le_trans H.f6 (by decide)) ?_ (by rfl) (by rfl) (by rfl) (by rfl)
      intro h tk S
      walk_at "ww"
      rw [show ((line : Int) + 1) = ((line + 1 : Nat) : Int) by omega] at S
      have H1 : LxSt X left pb (line + left.count 10) lv' pv fs := ⟨hv2, H.p, ⟨tl, line, hline, rfl⟩, H.f2, H.f3, H.f4, H.f5, H.f6, Nat.le_of_succ_le hlz, H.pz⟩
      exact hR _ _ _ lv' _ (H1.line (by omega)) S.leave
    · have hc : c ≠ 10 := by simpa using hc
      walk_at "ww"
      rw [List.count_cons_of_ne hc] at htot
      exact hR _ _ _ lv' fs ⟨hv2, H.p, ⟨tl, line, hline, htot⟩, H.f2, H.f3, H.f4, H.f5, H.f6, Nat.le_of_succ_le hlz, H.pz⟩ S.leave
open PySem.Builtin.Str in
theorem ws_in (c : Nat) : (!(occurrences (st [10, 9, 13, 32]) (st [c]) 0 (st [10, 9, 13, 32]).length 1).isEmpty) = [10, 9, 13, 32].contains c := by
  by_cases h1 : c = 10
  · subst h1; decide +kernel
  by_cases h2 : c = 9
  · subst h2; decide +kernel
  by_cases h3 : c = 13
  · subst h3; decide +kernel
  by_cases h4 : c = 32
  · subst h4; decide +kernel
  have e : ∀ i, i < 5 → i + 1 ≤ 4 → subAt (st [10, 9, 13, 32]) (st [c]) i = false := by
    intro i hi h
    match i, h with
    | 0, _ => simp [subAt, st, Str.length]; omega
    | 1, _ => simp [subAt, st, Str.length]; omega
    | 2, _ => simp [subAt, st, Str.length]; omega
    | 3, _ => simp [subAt, st, Str.length]; omega
  have r : ([10, 9, 13, 32] : List Nat).contains c = false := by simp [h1, h2, h3, h4]
  rw [r]
  have hl : (st [10, 9, 13, 32]).length = 4 := rfl
  have hc : (st [c]).length = 1 := rfl
  unfold occurrences
  rw [hl, hc]
  have e0 := e 0 (by decide) (by decide)
  have e1 := e 1 (by decide) (by decide)
  have e2 := e 2 (by decide) (by decide)
  have e3 := e 3 (by decide) (by decide)
  simp [Id.run, Std.Legacy.Range.forIn_eq_forIn_range', Std.Legacy.Range.size, List.range', e0, e1, e2, e3]
  rfl
noncomputable def isWs (c : Nat) : Bool := [10, 9, 13, 32].contains c
section
variable {w : World} {hb h h' : Heap} {L : Addr} {m : Str → Option Value} {own own' : List (Addr × Cel)} {A : Around} {E : Value → Shared → Prop} {hp : Heap} {g : Array GenState} {d : Drawn} {tk : Nat} {os : OsState} {env : Env} {bm fi : Addr} {tc : Tok}
theorem inWs {c : Nat} {t u : Tok} {s : Shared} {Q : Value → Shared → Prop} (h : Q (.bool (isWs c)) s) : wpAny (model PG w) A (compareOp .In (.str (st [c]) u) (.str (st [10, 9, 13, 32]) t)) Q E s :=
  P.in_str (by rw [ws_in]; exact h)
/-- self.name as a bound method -/
theorem bndA {x dx C f : Addr} {fs : List (Str × Value)} {name : Str} {expr : Bool} {Q : Value → Shared → Prop} (B : Bs w hb) (S : St hb hp L m own) (hx : (x, .ins C dx) ∈ own) (hd : (dx, .dct fs) ∈ own) (hl : fs.lookup name = none)
    (h : ∀ h' tk' q, St hb h' L m ((q, .obj (methodObj (.ref f) (.ref x))) :: own) → Q (.ref q) ⟨h', g, d, tk', os⟩)
    (hg : plainGet (KK w.params) C name = true := by rfl) (hh : hasDictIn (KK w.params) C = true := by rfl) (ha : findIn (KK w.params) (.ref C) name = some (some (.ref f)) := by rfl) (hf : isFn (KK w.params) (.ref f) = true := by rfl)
    (hgf : specialIn (KK w.params) (.ref f) "__get__" = some (some (.builtin "function.__get__")) := by rfl) (ht : takesIn (KK w.params) (.ref f) = some false := by rfl) (hc : copiedNames.contains name = false := by decide +kernel) :
    wpAny (model PG w) A (getAttr (.ref x) name expr) Q E ⟨hp, g, d, tk, os⟩ := by
  obtain ⟨o, ho, es, n, rfl, hD⟩ := S.mem hd
  obtain ⟨news, N, k0, k1, k⟩ := S.newsL own fun _ hp => hp
  refine kbm_bound (ox := instObj C dx) S.Fr B.X N ⟨S.mem hx, rfl, rfl, ho⟩ hg hh ha hf hgf ht hc (by rw [hD.get, hl]) fun q h' F' N' hlt => h h' _ q ?_
  have n1 := N' _ (.head _)
  have S1 : St hb h' L m own := ⟨F'.keep, F'.ns, F'.above, fun p hp => ⟨k h' [_] N' p hp, (S.has p hp).2⟩, S.nd⟩
  refine S1.add (c := .obj _) n1.1 n1.2.2 fun e => ?_
  rcases List.mem_cons.mp e with e | e
  · exact n1.2.1 e
  · obtain ⟨p, hp', e'⟩ := List.mem_map.mp e
    obtain ⟨r, hr, e2⟩ := k1 p hp'
    exact absurd (hlt r hr) (by rw [e2, e']; exact Nat.lt_irrefl _)
/-- one turn of the lexer's iterator -/
theorem turnC {X : Lx} {o : List Value → List Value → List (Str × Value) → List (Addr × Cel)} {left : List Nat} {pb : List (List Nat)} {tot : Nat} {lv pv : List Value} {fs : List (Str × Value)} {Q : Option Value → Shared → Prop} (B : Bs w hb) (Ok : LxOk w hb X) (O : LxO X o) (H : LxSt X left pb tot lv pv fs)
    (S : St hb hp L m ((fi, .ci bm tc) :: (bm, .obj (methodObj (.ref 168) (.ref X.x))) :: o lv pv fs)) (hr : A.depth + 20 < recursionLimit) (hA : A.handled = none)
    (h1 : ∀ c rest h' tk' t' lv' fs', left = c :: rest → LxSt X rest pb tot lv' pv fs' → St hb h' L m ((fi, .ci bm tc) :: (bm, .obj (methodObj (.ref 168) (.ref X.x))) :: o lv' pv fs') → Q (some (.str (st [c]) t')) ⟨h', g, d, tk', os⟩)
    (h2 : ∀ h' tk' lv' fs', left = [] → LxSt X [] pb tot lv' pv fs' → St hb h' L m ((fi, .ce) :: (bm, .obj (methodObj (.ref 168) (.ref X.x))) :: o lv' pv fs') → Q none ⟨h', g, d, tk', os⟩) :
    wpAny (model PG w) A (pyNext (.ref fi)) Q E ⟨hp, g, d, tk, os⟩ := by
  obtain ⟨fo, hfo, fd, hfd⟩ : ∃ fo, (KK w.params).lookup 168 = some fo ∧ ∃ fd, fo.data = .func fd := ⟨_, by rfl, _, by rfl⟩
  refine nextC hA S (.head _) (.tail _ (.head _)) (B.X _ _ hfo) hfd (readc_spec B Ok ((O.up _).up _) H S (by exact hr) fun h' tk' t' lv' fs' H' S' => ?_)
  refine ⟨h', tk', left.take 1, t', _, rfl, rfl, S', .head _, .tail _ (.head _), fun hne => ?_, fun he => ?_⟩
  · cases left with
    | nil => exact absurd rfl hne
    | cons c rest => exact h1 c rest _ _ _ _ _ rfl H' S'
  · have hl : left = [] := by
      cases left with
      | nil => rfl
      | cons => cases he
    subst hl
    exact ⟨_, .head, fun h'' S'' => h2 _ _ _ _ rfl H' S''⟩
/-- a for over the lexer's iterator -/
theorem forC_inv {X : Lx} {o : List Value → List Value → List (Str × Value) → List (Addr × Cel)} {pb : List (List Nat)} {tot : Nat} {pv : List Value} {R : Result → Shared → Prop} {x : Str} {px : Pos} {body : List Stmt} (I : List Nat → (Str → Option Value) → Prop) (Fn : (Str → Option Value) → Prop) (B : Bs w hb) (Ok : LxOk w hb X) (O : LxO X o)
    (hr : A.depth + 20 < recursionLimit) (hA : A.handled = none) (hI : ∀ m, I [] m → Fn m)
    (turn : ∀ c left m h tk t lv fs (RL : Flow → Shared → Prop), (∀ f s₃, (match f with
            | .next | .cont => (∃ h' tk' m' lv' fs' left', s₃ = ⟨h', g, d, tk', os⟩ ∧ left'.length ≤ left.length ∧ LxSt X left' pb tot lv' pv fs' ∧ St hb h' env.locals m' ((fi, .ci bm tc) :: (bm, .obj (methodObj (.ref 168) (.ref X.x))) :: o lv' pv fs') ∧ I left' m') ∨
              (∃ h' tk' m' lv' fs', s₃ = ⟨h', g, d, tk', os⟩ ∧ LxSt X [] pb tot lv' pv fs' ∧ St hb h' env.locals m' ((fi, .ce) :: (bm, .obj (methodObj (.ref 168) (.ref X.x))) :: o lv' pv fs') ∧ Fn m')
            | .brk => R (.ok .next) s₃
            | .ret v => R (.ok (.ret v)) s₃) → RL f s₃) → I (c :: left) m → LxSt X left pb tot lv pv fs → St hb h env.locals (fun y => if y = x then some (.str (st [c]) t) else m y) ((fi, .ci bm tc) :: (bm, .obj (methodObj (.ref 168) (.ref X.x))) :: o lv pv fs) →
      wpAny (model PG w) A (execs body env) RL NoE ⟨h, g, d, tk, os⟩)
    (fin : ∀ h tk m lv fs, Fn m → LxSt X [] pb tot lv pv fs → St hb h env.locals m ((fi, .ce) :: (bm, .obj (methodObj (.ref 168) (.ref X.x))) :: o lv pv fs) → R (.ok .next) ⟨h, g, d, tk, os⟩)
    {left : List Nat} {h : Heap} {tk : Nat} {m : Str → Option Value} {lv : List Value} {fs : List (Str × Value)} (H : LxSt X left pb tot lv pv fs) (S : St hb h env.locals m ((fi, .ci bm tc) :: (bm, .obj (methodObj (.ref 168) (.ref X.x))) :: o lv pv fs)) (h0 : I left m)
    (hk : env.scope.kind = .function := by rfl) (hl : env.kindOf x = some .local := by rfl) : codeAny (model PG w) A (.forLoop (.Name x px) (.ref fi) body [] env) R ⟨h, g, d, tk, os⟩ := by
  generalize hn : left.length = n
  induction n using Nat.strongRecOn generalizing left h tk m lv fs with
  | ind n ih =>
    refine for1 (turnC B Ok O H S hr hA (fun c rest h' tk' t' lv' fs' e H' S' => ?_) fun h' tk' lv' fs' e H' S' => ?_)
    · subst e
      refine wpAny_assign_Name (stN S' (fun h2 tk2 S2 => ?_) hk hl)
      refine wpAny_mono (turn c rest m h2 tk2 t' lv' fs' _ (fun _ _ x => x) h0 H' S2) (fun f s₃ h₃ => ?_) fun _ _ x => x
      have nx : ((∃ h' tk' m' lv' fs' left', s₃ = ⟨h', g, d, tk', os⟩ ∧ left'.length ≤ rest.length ∧ LxSt X left' pb tot lv' pv fs' ∧ St hb h' env.locals m' ((fi, .ci bm tc) :: (bm, .obj (methodObj (.ref 168) (.ref X.x))) :: o lv' pv fs') ∧ I left' m') ∨
              (∃ h' tk' m' lv' fs', s₃ = ⟨h', g, d, tk', os⟩ ∧ LxSt X [] pb tot lv' pv fs' ∧ St hb h' env.locals m' ((fi, .ce) :: (bm, .obj (methodObj (.ref 168) (.ref X.x))) :: o lv' pv fs') ∧ Fn m')) → codeAny (model PG w) A (.forLoop (.Name x px) (.ref fi) body [] env) R s₃ := by
        rintro (⟨h', tk', m', lv', fs', left', rfl, hlen, H3, S3, h3⟩ | ⟨h', tk', m', lv', fs', rfl, H3, S3, h3⟩)
        · exact ih left'.length (by rw [← hn]; exact Nat.lt_succ_of_le hlen) H3 S3 h3 rfl
        · exact for1 (endC hA S3 (.head _) fun h'' S'' => wpAny_execs_nil (fin _ _ _ _ _ h3 H3 S''))
      cases f with
      | next => exact nx h₃
      | cont => exact nx h₃
      | brk => exact h₃
      | ret v => exact h₃
    · subst e
      exact wpAny_execs_nil (fin _ _ _ _ _ (hI _ h0) H' S')
end
theorem ldN {hb : Heap} {m : Str → Option Value} {own : List (Addr × Cel)} {A : Around} {E : Value → Shared → Prop} {s : Shared} {env : Env} {x : Str} {v : Value} {Q : Value → Shared → Prop} {M : Model} (S : St hb s.heap env.locals m own) (hv : m x = some v) (h : Q v s)
    (hk : env.scope.kind = .function := by rfl) (hl : env.kindOf x = some .local := by rfl) : wpAny M A (loadName env x) Q E s := wpAny_loadName_local hk hl S.fr hv h
noncomputable def lxW : List Nat → List Nat → List Nat × List Nat
  | [], t => (t, [])
  | c :: r, t => if isWs c then (t, r) else if c = 92 then (match r with
    | [] => (t, [])
    | d :: r' => lxW r' (t ++ [d])) else lxW r (t ++ [c])
noncomputable def lxQ : List Nat → List Nat → List Nat × List Nat
  | [], t => (t, [])
  | c :: r, t => if c = 34 then (t, r) else if c = 92 then (match r with
    | [] => (t, [])
    | d :: r' => lxQ r' (t ++ [d])) else lxQ r (t ++ [c])
theorem lxW_cons (c : Nat) (r t : List Nat) : lxW (c :: r) t = if isWs c then (t, r) else if c = 92 then lxW (r.drop 1) (t ++ r.take 1) else lxW r (t ++ [c]) := by
  cases r with
  | nil => simp [lxW]
  | cons d r' => rw [lxW]; rfl
theorem lxQ_cons (c : Nat) (r t : List Nat) : lxQ (c :: r) t = if c = 34 then (t, r) else if c = 92 then lxQ (r.drop 1) (t ++ r.take 1) else lxQ r (t ++ [c]) := by
  cases r with
  | nil => simp [lxQ]
  | cons d r' => rw [lxQ]; rfl
noncomputable def lx : List Nat → List Nat × List Nat
  | [] => ([], [])
  | c :: r => if isWs c then lx r else if c = 34 then lxQ r [] else if c = 92 then lxW (r.drop 1) (r.take 1) else lxW r [c]
theorem push_spec {w : World} {hb : Heap} {L : Addr} {m : Str → Option Value} {A : Around} {E : Value → Shared → Prop} {Q : Value → Shared → Prop} {hp : Heap} {g : Array GenState} {d : Drawn} {tk : Nat} {os : OsState} (B : Bs w hb)
    {X : Lx} {o : List Value → List Value → List (Str × Value) → List (Addr × Cel)} {left : List Nat} {pb : List (List Nat)} {tot : Nat} {lv pv : List Value} {fs : List (Str × Value)} {a : List Nat} {t : Tok} (O : LxO X o) (H : LxSt X left pb tot lv pv fs) (S : St hb hp L m (o lv pv fs)) (hr : A.depth + 20 < recursionLimit)
    (hpz : pb.length < 1000)
    (hQ : ∀ h' tk' pv', LxSt X left (pb ++ [a]) tot lv pv' fs → St hb h' L m (o lv pv' fs) → Q .none ⟨h', g, d, tk', os⟩) :
    wpAny (model PG w) A (PySem.call (.ref 182) [.ref X.x, .str (st a) t]) Q E ⟨hp, g, d, tk, os⟩ := by
  refine wpAny_call ?_
  refine callK (binds := [("self", .ref X.x), ("token", .str (st a) t)]) B S (by rfl) (by rfl) (by omega) (.of_eq rfl) (by rfl) (fun h1 L1 tk1 S => genR fun RF hRF => ?_)
  have mX := O.mx lv pv fs
  have mD := (O.uD lv pv fs fs).old
  have mP := (O.uP lv pv pv fs).old
  have hf4 := H.f4
  have hpl : pv.length = pb.length := by simpa using congrArg List.length H.p
  walk_at "ww"
  refine appL S (.tail (O.uP lv pv (pv ++ [.str (st a) t]) fs)) ?_ (by walk_at "szl")
  intro h S
  walk_at "ww"
  exact hQ _ _ _ ⟨H.l, by rw [List.map_append, List.map_append, H.p]; rfl, H.f1, H.f2, H.f3, H.f4, H.f5, H.f6, H.lz, by simp; omega⟩ S.leave
theorem get_spec {w : World} {hb : Heap} {L : Addr} {m : Str → Option Value} {A : Around} {E : Value → Shared → Prop} {Q : Value → Shared → Prop} {hp : Heap} {g : Array GenState} {d : Drawn} {tk : Nat} {os : OsState} (B : Bs w hb)
    {X : Lx} {o : List Value → List Value → List (Str × Value) → List (Addr × Cel)} {left : List Nat} {pb : List (List Nat)} {tot : Nat} {lv pv : List Value} {fs : List (Str × Value)} (Ok : LxOk w hb X) (O : LxO X o) (H : LxSt X left pb tot lv pv fs) (S : St hb hp L m (o lv pv fs)) (hr : A.depth + 50 < recursionLimit) (hA : A.handled = none)
    (hQ1 : ∀ a pb' h' tk' t' pv', pb = a :: pb' → LxSt X left pb' tot lv pv' fs → St hb h' L m (o lv pv' fs) → Q (.str (st a) t') ⟨h', g, d, tk', os⟩)
    (hQ2 : ∀ h' tk' t' lv' fs', pb = [] → LxSt X (lx left).2 [] tot lv' pv fs' → St hb h' L m (o lv' pv fs') → Q (.str (st (lx left).1) t') ⟨h', g, d, tk', os⟩) :
    wpAny (model PG w) A (PySem.call (.ref 175) [.ref X.x]) Q E ⟨hp, g, d, tk, os⟩ := by
  refine wpAny_call ?_
  refine callK (binds := [("self", .ref X.x)]) B S (by rfl) (by rfl) (by omega) (.of_eq rfl) (by rfl) (fun h1 L1 tk1 S => genR fun RF hRF => ?_)
  have mX := O.mx lv pv fs
  have mD := (O.uD lv pv fs fs).old
  have mP := (O.uP lv pv pv fs).old
  have hf4 := H.f4
  have hpz := H.pz
  have hpl : pv.length = pb.length := by simpa using congrArg List.length H.p
  walk_at "ww"
  cases pb with
  | cons a pb' =>
    obtain ⟨v, pv', rfl⟩ : ∃ v r, pv = v :: r := by
      cases pv with
      | nil => cases hpl
      | cons v r => exact ⟨v, r, rfl⟩
    have hl := H.p
    rw [List.map_cons, List.map_cons] at hl
    obtain ⟨hv1, hv2⟩ := List.cons.inj hl
    obtain ⟨tv, rfl⟩ := sval_some hv1
    simp only [List.length_cons] at hpz hpl
    walk_at "ww"
    refine popL S (.tail (O.uP lv (_ :: pv') pv' fs)) ?_ (by walk_at "szl")
    intro h S
    walk_at "ww"
    exact hQ1 a pb' _ _ _ pv' rfl ⟨H.l, hv2, H.f1, H.f2, H.f3, H.f4, H.f5, H.f6, H.lz, by omega⟩ S.leave
  | nil =>
    obtain rfl : pv = [] := List.eq_nil_of_length_eq_zero hpl
    obtain ⟨hf51, hf52, hf53⟩ := H.f5
    walk_at "ww"
    refine bndA (f := 168) B S (by walk_at "mem") (by walk_at "mem") hf51 ?_
    intro h tk bm S
    walk_at "ww"
    refine newC S (.head _) ?_
    intro h fi S
    walk_at "ww"
    refine iterC0 S (.head _) ?_
    obtain ⟨u0, hu0⟩ : ∃ u : Tok, u = t := ⟨_, rfl⟩
    rw [← hu0] at S
    clear hu0
    refine forC_inv (X := X) (bm := bm) (fi := fi) (tc := u0) (o := fun a p f => (L, .ns m) :: o a p f) (pb := []) (tot := tot) (pv := []) (x := "ch")
      (fun l m' => m' "self" = some (.ref X.x) ∧ m' "fiter" = some (.ref fi) ∧ (∃ t, m' "token" = some (.str (st []) t)) ∧ lx l = lx left)
      (fun m' => ∃ a t, m' "token" = some (.str (st a) t) ∧ lx left = (a, [])) B Ok (O.up _) (by show A.depth + 1 + 20 < _; omega) (by exact hA) ?_ ?_ ?_ H S ?_
    · rintro m' ⟨_, _, ⟨t, ht⟩, e⟩
      exact ⟨[], t, ht, by rw [← e]; rfl⟩
    · rintro c l m' h tk t lv fs RL hRL ⟨ms, mf, ⟨tt, mt⟩, e⟩ H S
      have mX := O.mx lv [] fs
      have mD := (O.uD lv [] fs fs).old
      obtain ⟨tw, hf3⟩ := H.f3
      obtain ⟨hf51, hf52, hf53⟩ := H.f5
      walk_at "ww"
      refine inWs ?_
      walk_at "ww"
      refine if_s (fun hw => ?_) (fun hw => ?_)
      · walk_at "ww"
        exact .inl (exI6 _ _ _ lv fs (l) ⟨rfl, Nat.le_refl _, H, S, by walk_at "lk", by walk_at "lk", ⟨_, by walk_at "lk"⟩, by rw [← e, lx, if_pos hw]⟩)
      · rw [lx, if_neg hw] at e
        walk_at "ww"
        refine if_s (fun hq => ?_) (fun hq => ?_)
        · have hq : c = 34 := by simpa using hq
          subst hq
          rw [if_pos rfl] at e
          walk_at "ww"
          refine iterC0 S (.head _) ?_
          refine forC_inv (X := X) (bm := bm) (fi := fi) (tc := u0) (o := fun a p f => (L, .ns m) :: o a p f) (pb := []) (tot := tot) (pv := []) (x := "ch")
            (fun l m' => m' "self" = some (.ref X.x) ∧ ∃ tok t, m' "token" = some (.str (st tok) t) ∧ lxQ l tok = lx left ∧ tok.length + l.length ≤ 200000)
            (fun m' => ∃ a t, m' "token" = some (.str (st a) t) ∧ lx left = (a, [])) B Ok (O.up _) (by show A.depth + 1 + 20 < _; omega) (by exact hA) ?_ ?_ ?_ H S ?_
          · rintro m' ⟨_, tok, t, mt, e, _⟩
            exact ⟨tok, t, mt, by rw [← e, lxQ]⟩
          · clear S H e
            rintro c l m' h tk t lv fs RL hRL ⟨ms, tok, tt, mt, e, hz⟩ H S
            have mX := O.mx lv [] fs
            have mD := (O.uD lv [] fs fs).old
            obtain ⟨tw, hf3⟩ := H.f3
            obtain ⟨hf51, hf52, hf53⟩ := H.f5
            rw [List.length_cons] at hz
            walk_at "ww"
            refine if_s (fun hq => ?_) (fun hq => ?_)
            · have hq : c = 34 := by simpa using hq
              rw [lxQ_cons, if_pos hq] at e
              walk_at "ww"
              rw [← e] at hQ2
              exact hQ2 _ _ _ lv fs rfl H (S.sub (by walk_at "sl")).leave
            · have hq : c ≠ 34 := by simpa using hq
              rw [lxQ_cons, if_neg hq] at e
              walk_at "ww"
              refine if_s (fun hb => ?_) (fun hb => ?_)
              · have hb : c = 92 := by simpa using hb
                subst hb
                rw [if_pos rfl] at e
                walk_at "ww"
                refine mthA (f := 168) B S (by walk_at "mem") (by walk_at "mem") hf51 (by rfl) ?_
                walk_at "ww"
                refine wpAny_call (readc_spec B Ok (((O.up _).up _).up _) H S (by show A.depth + 1 + 20 < _; omega) ?_)
                intro h tk t lv fs H S
                have hzl : (l.take 1).length + (l.drop 1).length = l.length := by rw [← List.length_append, List.take_append_drop]
                walk_at "ww"
                exact .inl (exI6 _ _ _ lv fs (l.drop 1) ⟨rfl, by omega, H, S, by walk_at "lk", tok ++ l.take 1, _, by walk_at "lk", e, by rw [List.length_append]; omega⟩)
              · have hb : c ≠ 92 := by simpa using hb
                rw [if_neg hb] at e
                walk_at "ww"
                exact .inl (exI6 _ _ _ lv fs (l) ⟨rfl, Nat.le_refl _, H, S, by walk_at "lk", tok ++ [c], _, by walk_at "lk", e, by simp; omega⟩)
          · rintro h tk m' lv fs ⟨a, t, mt, e⟩ H S
            walk_at "ww"
            exact .inr (exI5 _ _ _ lv fs ⟨rfl, H, S, a, t, mt, e⟩)
          · exact ⟨by walk_at "lk", [], _, by walk_at "lk", e, by have := H.lz; simp; omega⟩
        · have hq : c ≠ 34 := by simpa using hq
          rw [if_neg hq] at e
          walk_at "ww"
          refine if_s (fun hb => ?_) (fun hb => ?_)
          · have hb : c = 92 := by simpa using hb
            subst hb
            rw [if_pos rfl] at e
            walk_at "ww"
            refine mthA (f := 168) B S (by walk_at "mem") (by walk_at "mem") hf51 (by rfl) ?_
            walk_at "ww"
            refine wpAny_call (readc_spec B Ok (((O.up _).up _).up _) H S (by show A.depth + 1 + 20 < _; omega) ?_)
            intro h tk t lv fs H S
            have hzl : (l.take 1).length + (l.drop 1).length = l.length := by rw [← List.length_append, List.take_append_drop]
            have hlz := H.lz
            have hl1 : (l.take 1).length ≤ 1 := List.length_take_le ..
            walk_at "ww"
            rw [List.nil_append] at S
            refine iterC0 S (.head _) ?_
            refine forC_inv (X := X) (bm := bm) (fi := fi) (tc := u0) (o := fun a p f => (L, .ns m) :: o a p f) (pb := []) (tot := tot) (pv := []) (x := "ch")
              (fun l m' => m' "self" = some (.ref X.x) ∧ ∃ tok t, m' "token" = some (.str (st tok) t) ∧ lxW l tok = lx left ∧ tok.length + l.length ≤ 200000)
              (fun m' => ∃ a t, m' "token" = some (.str (st a) t) ∧ lx left = (a, [])) B Ok (O.up _) (by show A.depth + 1 + 20 < _; omega) (by exact hA) ?_ ?_ ?_ H S ?_
            · rintro m' ⟨_, tok, t, mt, e, _⟩
              exact ⟨tok, t, mt, by rw [← e, lxW]⟩
            · clear S H e
              rintro c l m' h tk t lv fs RL hRL ⟨ms, tok, tt, mt, e, hz⟩ H S
              have mX := O.mx lv [] fs
              have mD := (O.uD lv [] fs fs).old
              obtain ⟨tw, hf3⟩ := H.f3
              obtain ⟨hf51, hf52, hf53⟩ := H.f5
              rw [List.length_cons] at hz
              walk_at "ww"
              refine inWs ?_
              walk_at "ww"
              refine if_s (fun hq => ?_) (fun hq => ?_)
              · skip
                rw [lxW_cons, if_pos hq] at e
                walk_at "ww"
                rw [← e] at hQ2
                exact hQ2 _ _ _ lv fs rfl H (S.sub (by walk_at "sl")).leave
              · rw [lxW_cons, if_neg hq] at e
                walk_at "ww"
                refine if_s (fun hb => ?_) (fun hb => ?_)
                · have hb : c = 92 := by simpa using hb
                  subst hb
                  rw [if_pos rfl] at e
                  walk_at "ww"
                  refine mthA (f := 168) B S (by walk_at "mem") (by walk_at "mem") hf51 (by rfl) ?_
                  walk_at "ww"
                  refine wpAny_call (readc_spec B Ok (((O.up _).up _).up _) H S (by show A.depth + 1 + 20 < _; omega) ?_)
                  intro h tk t lv fs H S
                  have hzl : (l.take 1).length + (l.drop 1).length = l.length := by rw [← List.length_append, List.take_append_drop]
                  walk_at "ww"
                  exact .inl (exI6 _ _ _ lv fs (l.drop 1) ⟨rfl, by omega, H, S, by walk_at "lk", tok ++ l.take 1, _, by walk_at "lk", e, by rw [List.length_append]; omega⟩)
                · have hb : c ≠ 92 := by simpa using hb
                  rw [if_neg hb] at e
                  walk_at "ww"
                  exact .inl (exI6 _ _ _ lv fs (l) ⟨rfl, Nat.le_refl _, H, S, by walk_at "lk", tok ++ [c], _, by walk_at "lk", e, by simp; omega⟩)
            · rintro h tk m' lv fs ⟨a, t, mt, e⟩ H S
              walk_at "ww"
              exact .inr (exI5 _ _ _ lv fs ⟨rfl, H, S, a, t, mt, e⟩)
            · exact ⟨by walk_at "lk", l.take 1, _, by walk_at "lk", e, by omega⟩
          · have hb : c ≠ 92 := by simpa using hb
            rw [if_neg hb] at e
            walk_at "ww"
            rw [List.nil_append] at S
            refine iterC0 S (.head _) ?_
            refine forC_inv (X := X) (bm := bm) (fi := fi) (tc := u0) (o := fun a p f => (L, .ns m) :: o a p f) (pb := []) (tot := tot) (pv := []) (x := "ch")
              (fun l m' => m' "self" = some (.ref X.x) ∧ ∃ tok t, m' "token" = some (.str (st tok) t) ∧ lxW l tok = lx left ∧ tok.length + l.length ≤ 200000)
              (fun m' => ∃ a t, m' "token" = some (.str (st a) t) ∧ lx left = (a, [])) B Ok (O.up _) (by show A.depth + 1 + 20 < _; omega) (by exact hA) ?_ ?_ ?_ H S ?_
            · rintro m' ⟨_, tok, t, mt, e, _⟩
              exact ⟨tok, t, mt, by rw [← e, lxW]⟩
            · clear S H e
              rintro c l m' h tk t lv fs RL hRL ⟨ms, tok, tt, mt, e, hz⟩ H S
              have mX := O.mx lv [] fs
              have mD := (O.uD lv [] fs fs).old
              obtain ⟨tw, hf3⟩ := H.f3
              obtain ⟨hf51, hf52, hf53⟩ := H.f5
              rw [List.length_cons] at hz
              walk_at "ww"
              refine inWs ?_
              walk_at "ww"
              refine if_s (fun hq => ?_) (fun hq => ?_)
              · skip
                rw [lxW_cons, if_pos hq] at e
                walk_at "ww"
                rw [← e] at hQ2
                exact hQ2 _ _ _ lv fs rfl H (S.sub (by walk_at "sl")).leave
              · rw [lxW_cons, if_neg hq] at e
                walk_at "ww"
                refine if_s (fun hb => ?_) (fun hb => ?_)
                · have hb : c = 92 := by simpa using hb
                  subst hb
                  rw [if_pos rfl] at e
                  walk_at "ww"
                  refine mthA (f := 168) B S (by walk_at "mem") (by walk_at "mem") hf51 (by rfl) ?_
                  walk_at "ww"
                  refine wpAny_call (readc_spec B Ok (((O.up _).up _).up _) H S (by show A.depth + 1 + 20 < _; omega) ?_)
                  intro h tk t lv fs H S
                  have hzl : (l.take 1).length + (l.drop 1).length = l.length := by rw [← List.length_append, List.take_append_drop]
                  walk_at "ww"
                  exact .inl (exI6 _ _ _ lv fs (l.drop 1) ⟨rfl, by omega, H, S, by walk_at "lk", tok ++ l.take 1, _, by walk_at "lk", e, by rw [List.length_append]; omega⟩)
                · have hb : c ≠ 92 := by simpa using hb
                  rw [if_neg hb] at e
                  walk_at "ww"
                  exact .inl (exI6 _ _ _ lv fs (l) ⟨rfl, Nat.le_refl _, H, S, by walk_at "lk", tok ++ [c], _, by walk_at "lk", e, by simp; omega⟩)
            · rintro h tk m' lv fs ⟨a, t, mt, e⟩ H S
              walk_at "ww"
              exact .inr (exI5 _ _ _ lv fs ⟨rfl, H, S, a, t, mt, e⟩)
            · exact ⟨by walk_at "lk", [c], _, by walk_at "lk", e, by have := H.lz; simp; omega⟩
    · rintro h tk m' lv fs ⟨a, t, mt, e⟩ H S
      walk_at "ww"
      rw [e] at hQ2
      exact hQ2 _ _ _ lv fs rfl H (S.sub (by walk_at "sl")).leave
    · exact ⟨by walk_at "lk", by walk_at "lk", ⟨_, by walk_at "lk"⟩, rfl⟩
noncomputable def runT {α : Type} (lt : Nat → Nat → Bool) : KasT α → α
  | .ret a => a
  | .ask i j k => runT lt (k (lt i j))
noncomputable def okT {α : Type} (n : Nat) : KasT α → Bool
  | .ret _ => true
  | .ask i j k => decide (i < n) && decide (j < n) && okT n (k true) && okT n (k false)
theorem runT_wp {α : Type} {n : Nat} {lt : Nat → Nat → Bool} {cmp : Nat → Nat → (Bool → Shared → Prop) → Shared → Prop} {Q : α → Shared → Prop} {s : Shared} (hc : ∀ i j, i < n → j < n → ∀ C : Bool → Shared → Prop, C (lt i j) s → cmp i j C s) :
    ∀ t : KasT α, okT n t = true → Q (runT lt t) s → t.kasWp cmp Q s
  | .ret _, _, h => h
  | .ask i j k, ho, h => by
    unfold okT at ho
    simp only [Bool.and_eq_true, decide_eq_true_eq] at ho
    obtain ⟨⟨⟨h1, h2⟩, h3⟩, h4⟩ := ho
    have hk : okT n (k (lt i j)) = true := by cases lt i j <;> assumption
    exact hc i j h1 h2 _ (runT_wp hc (k (lt i j)) hk h)
theorem ok4 : okT 4 (kas_sort 4) = true := by decide +kernel
section
variable {w : World} {hb h h' : Heap} {L : Addr} {m : Str → Option Value} {own own' : List (Addr × Cel)} {A : Around} {E : Value → Shared → Prop} {hp : Heap} {g : Array GenState} {d : Drawn} {tk : Nat} {os : OsState} {l : Addr} {vs : List Value}
theorem katKeys {kv : Value} {F : Value → Int → Prop} {kS : Addr} {Fin : List Value → Nat → Shared → Prop} (K : KeyOk w hb kv F (fun _ => True)) (hr : A.depth + 5 < recursionLimit) :
    ∀ (r : List Value) (kr : List Int) (ks : List Value) (kz : List Int) (e : Nat) (hp : Heap) (tk : Nat), r.length = kr.length → (∀ (i : Nat) (v : Value) (k : Int), r[i]? = some v → kr[i]? = some k → F v k) → ks.map ival = kz.map some → St hb hp L m ((kS, .obj (seqObj "list" ks.toArray e)) :: own) →
      (∀ ks' e' h' tk', ks'.map ival = (kz ++ kr).map some → St hb h' L m ((kS, .obj (seqObj "list" ks'.toArray e')) :: own) → Fin ks' e' ⟨h', g, d, tk', os⟩) →
      KatKeys PG w A hb L m kS kv Fin r ks e ⟨hp, g, d, tk, os⟩ :=
  by
  intro r
  induction r with
  | nil =>
    intro kr ks kz e hp tk hlen _ hk S hfin
    cases kr with
    | cons => cases hlen
    | nil =>
      rw [List.append_nil] at hfin
      exact KatKeys.nil (hfin ks e hp tk hk S)
  | cons v r ih =>
    intro kr ks kz e hp tk hlen hF hk S hfin
    cases kr with
    | nil => cases hlen
    | cons k kr =>
      refine KatKeys.cons (K.call (hF 0 v k rfl rfl) S trivial hr fun h1 tk1 t1 S1 => ?_)
      obtain ⟨post, N, ne, kk⟩ := S1.newsAt (.head _) (S1.mem (.head _))
      refine KatBack.intro S1.Fr N (.head ne) fun h2 c F2 N2 => ?_
      have S2 : St hb h2 L m ((kS, .obj (seqObj "list" (List.toArray (ks ++ [.int k t1])) c)) :: own) := kk h2 _ _ _ F2 N2 .head (by intro x e; cases e) fun e => e
      refine ih kr (ks ++ [.int k t1]) (kz ++ [k]) c h2 tk1 (by simpa using hlen) (fun i v' k' h1 h2 => hF (i + 1) v' k' (by simpa using h1) (by simpa using h2)) (by rw [List.map_append, List.map_append, hk]; rfl) S2 fun ks' e' h' tk' hk' S' => ?_
      exact hfin ks' e' h' tk' (by rw [List.append_assoc] at hk'; exact hk') S'
/-- sorted(l, key=f) for four -/
theorem srtK {kv : Value} {kz : List Int} {F : Value → Int → Prop} {Q : Value → Shared → Prop} (K : KeyOk w hb kv F (fun _ => True)) (S : St hb hp L m own) (hl : (l, .lst vs) ∈ own) (h4 : vs.length = 4) (hz4 : kz.length = 4) (hF : ∀ (i : Nat) (v : Value) (k : Int), vs[i]? = some v → kz[i]? = some k → F v k)
    (ht : ∀ x, Builtin.«list.sort» ⟨[.ref x], [("key", kv)]⟩ = ksk_tree x kv false) (hr : A.depth + 5 < recursionLimit)
    (hQ : ∀ h' tk' D, St hb h' L m ((D, .lst ((runT (fun i j => decide (kz.getD i 0 < kz.getD j 0)) (kas_sort 4)).toList.map fun i => vs.getD i .none)) :: own) → Q (.ref D) ⟨h', g, d, tk', os⟩) :
    wpAny (model PG w) A (call (.builtin "sorted") [.ref l] [("key", kv)]) Q E ⟨hp, g, d, tk, os⟩ := by
  obtain ⟨news, N, k0, k1, k⟩ := S.newsL own fun _ hp => hp
  refine kat_sortedK (b := false) S.Fr N (lst_isList (S.mem hl)) (by (first | lia | omega)) (by (first | lia | omega)) (ksk_s1 _ _) (fun x => ksk_l1 _ _) ht fun D kS e1 h' F' N' hDk hlt => ?_
  have n1 := N' _ (.head _)
  have n2 := N' _ (.tail _ (.head _))
  have S1 : St hb h' L m own := ⟨F'.keep, F'.ns, F'.above, fun p hp => ⟨k h' [_, _] N' p hp, (S.has p hp).2⟩, S.nd⟩
  have lt : ∀ p ∈ own, p.1 < D := fun p hp => by
    obtain ⟨q, hq, e⟩ := k1 p hp
    rw [← e]; exact hlt q hq
  have S2 : St hb h' L m ((D, .obj (seqObj "list" #[] e1)) :: own) := S1.add (c := .obj _) n2.1 n2.2.2 fun q => by
    rcases List.mem_cons.mp q with e | q
    · exact n2.2.1 e
    · obtain ⟨p, hp, e⟩ := List.mem_map.mp q
      exact absurd (lt p hp) (by rw [e]; exact Nat.lt_irrefl _)
  have S3 : St hb h' L m ((kS, .obj (seqObj "list" #[] 0)) :: (D, .obj (seqObj "list" #[] e1)) :: own) := S2.add (c := .obj _) n1.1 n1.2.2 fun q => by
    rcases List.mem_cons.mp q with e | q
    · exact n1.2.1 e
    · rcases List.mem_cons.mp q with e | q
      · exact absurd hDk (by rw [show kS = D from e]; exact Nat.lt_irrefl _)
      · obtain ⟨p, hp, e⟩ := List.mem_map.mp q
        exact absurd (lt p hp) (by rw [e]; exact Nat.not_lt.mpr (Nat.le_of_lt hDk))
  refine katKeys (A := A.in1.in1) K hr vs kz [] [] 0 h' tk (by (first | lia | omega)) hF rfl S3 fun ks' e' h2 tk2 hk2 S4 => ?_
  rw [List.nil_append] at hk2
  have hkl : ks'.length = 4 := by rw [map_ival_len hk2, hz4]
  refine wpAny_of_eq (ksk_kind (kz := kz) (by simpa using intsAre_of hk2) (by simpa using (by (first | lia | omega) : 2 ≤ ks'.length))) ?_
  rw [h4]
  refine runT_wp (lt := fun i j => decide (kz.getD i 0 < kz.getD j 0)) (fun i j hi hj C hC => ?_) _ ok4 ?_
  · unfold kas_ask
    obtain ⟨t1, e1⟩ := map_ival hk2 i (kz.getD i 0) (by rw [List.getD_eq_getElem?_getD, List.getElem?_eq_getElem (by (first | lia | omega))]; rfl)
    obtain ⟨t2, e2⟩ := map_ival hk2 j (kz.getD j 0) (by rw [List.getD_eq_getElem?_getD, List.getElem?_eq_getElem (by (first | lia | omega))]; rfl)
    have e1' : (katRev false ks').getD i Value.none = .int (kz.getD i 0) t1 := by
      show ks'.getD i Value.none = _
      rw [List.getD_eq_getElem?_getD, e1]; rfl
    have e2' : (katRev false ks').getD j Value.none = .int (kz.getD j 0) t2 := by
      show ks'.getD j Value.none = _
      rw [List.getD_eq_getElem?_getD, e2]; rfl
    rw [e1', e2']
    exact kat_lt_int hC
  · obtain ⟨post, N4, ne4, kk4⟩ := S4.newsAt (.head _) (S4.mem (.head _))
    refine KatFin.intro S4.Fr N4 (.head ne4) fun h3 c F3 N3 => ?_
    have S5 : St hb h3 L m ((kS, .obj (seqObj "list" #[] c)) :: (D, .obj (seqObj "list" #[] e1)) :: own) := kk4 h3 _ _ _ F3 N3 .head (by intro x e; cases e) fun e => e
    have S6 := S5.tail
    obtain ⟨post2, N6, ne6, kk6⟩ := S6.newsAt (.head _) (S6.mem (.head _))
    refine KasFin.intro S6.Fr N6 (.head ne6) fun h4 c4 F4 N7 => ?_
    exact hQ h4 _ D (kk6 h4 _ _ _ F4 N7 .head (by intro x e; cases e) fun e => ⟨c4, e⟩)
/-- sorted(l) for texts -/
theorem srtS {ss : List (List Nat)} {Q : Value → Shared → Prop} (S : St hb hp L m own) (hl : (l, .lst vs) ∈ own) (hv : vs.map sval = ss.map some) (h64 : vs.length < 64)
    (hQ : ∀ h' D vs' (ss' : List (List Nat)), St hb h' L m ((D, .lst vs') :: own) → vs'.map sval = ss'.map some → ss'.Perm ss → sortedS (ss'.map st) = true → Q (.ref D) ⟨h', g, d, tk, os⟩) :
    wpAny (model PG w) A (call (.builtin "sorted") [.ref l]) Q E ⟨hp, g, d, tk, os⟩ := by
  obtain ⟨news, N, k⟩ := S.news
  refine sorted_N_str S.Fr N (lst_isList (S.mem hl)) (strsAre_of hv) h64 fun h' vs' ss1 e F' N' hs1 hp1 hso => ?_
  have S1 : St hb h' L m ((hp.objs.size + 1, .lst vs') :: own) := (k h' [_] F' N').add (c := .lst vs') ⟨e, (N' _ (.head _)).1⟩ (Cel.Apart.of_le (Nat.le_succ_of_le S.sz)) (S.newAddr (Nat.le_succ _))
  have key : ss1 = (ss1.map fun s => s.cps.toList).map st := by
    rw [List.map_map]
    refine (List.map_id ss1).symm.trans (List.map_congr_left fun s _ => ?_)
    show s = st s.cps.toList
    unfold st
    simp
  refine hQ h' _ vs' (ss1.map fun s => s.cps.toList) S1 ?_ ?_ ?_
  · clear hso hp1 key N' F' S1
    induction hs1 with
    | nil => rfl
    | cons s t _ ih => rw [List.map_cons, List.map_cons, List.map_cons, ih]; rfl
  · have h2 := hp1.map fun s => s.cps.toList
    rw [List.map_map] at h2
    have e3 : ss.map ((fun s => s.cps.toList) ∘ st) = ss := (List.map_congr_left fun x _ => by show (st x).cps.toList = x; simp [st]).trans (List.map_id ss)
    rw [e3] at h2; exact h2
  · rw [← key]; exact hso
end
/-- all that a turn of the law's loop asks of the purse -/
noncomputable def point (cs : List Nat) (c : Nat) : Bool :=
  let last := cs.getLastD 1
  let q := (c - 1) / last + 1
  let stop := last * q
  let o := stop - c
  let hand := qh cs o
  let t := tabF (cs ++ [c]) (last + c)
  (decide (1 + hand.length ≤ q) == (t.1 == t.2)) && (t.1.getD stop 0 == 1 + hand.length) && (hand.sum == o) && hand.all (fun x => decide (x < last)) && decide (c ≤ stop) && decide (stop ≤ last + c)
noncomputable def takes (cs : List Nat) (c : Nat) : Bool :=
  let last := cs.getLastD 1
  let q := (c - 1) / last + 1
  decide (1 + (qh cs (last * q - c)).length ≤ q)
noncomputable def chk : Nat → List Nat → Nat → Bool
  | 0, _, _ => true
  | f + 1, cs, lo => (List.range 12).all fun c => decide (c < lo) || (point cs c && (if takes cs c then chk f (cs ++ [c]) c else chk f cs c))
noncomputable def ck (f : Nat) (cs : List Nat) (c : Nat) : Bool := point cs c && (if takes cs c then chk f (cs ++ [c]) c else chk f cs c)
theorem chk_succ {f lo : Nat} {cs : List Nat} (h : ∀ c, lo ≤ c → c < 12 → ck f cs c = true) : chk (f + 1) cs lo = true := by
  unfold chk
  rw [List.all_eq_true]
  intro c hc
  have hc := List.mem_range.mp hc
  by_cases q : c < lo
  · rw [decide_eq_true q]; rfl
  · have := h c (by omega) hc
    unfold ck at this
    rw [this, Bool.or_true]
theorem chk_get {f lo : Nat} {cs : List Nat} (h : chk (f + 1) cs lo = true) {c : Nat} (h1 : lo ≤ c) (h2 : c < 12) : point cs c = true ∧ (takes cs c = true → chk f (cs ++ [c]) c = true) ∧ (takes cs c = false → chk f cs c = true) := by
  unfold chk at h
  have := List.all_eq_true.mp h c (List.mem_range.mpr h2)
  rw [decide_eq_false (by omega), Bool.false_or, Bool.and_eq_true] at this
  refine ⟨this.1, fun q => ?_, fun q => ?_⟩
  · have h3 := this.2
    rw [q] at h3; exact h3
  · have h3 := this.2
    rw [q] at h3; exact h3
theorem ck_2_2 : ck 2 (if takes [1] 2 then [1, 2] else [1]) 2 = true := by decide +kernel
theorem ck_2_3 : ck 2 (if takes [1] 2 then [1, 2] else [1]) 3 = true := by decide +kernel
theorem ck_2_4 : ck 2 (if takes [1] 2 then [1, 2] else [1]) 4 = true := by decide +kernel
theorem ck_2_5 : ck 2 (if takes [1] 2 then [1, 2] else [1]) 5 = true := by decide +kernel
theorem ck_2_6 : ck 2 (if takes [1] 2 then [1, 2] else [1]) 6 = true := by decide +kernel
theorem ck_2_7 : ck 2 (if takes [1] 2 then [1, 2] else [1]) 7 = true := by decide +kernel
theorem ck_2_8 : ck 2 (if takes [1] 2 then [1, 2] else [1]) 8 = true := by decide +kernel
theorem ck_2_9 : ck 2 (if takes [1] 2 then [1, 2] else [1]) 9 = true := by decide +kernel
theorem ck_2_10 : ck 2 (if takes [1] 2 then [1, 2] else [1]) 10 = true := by decide +kernel
theorem ck_2_11 : ck 2 (if takes [1] 2 then [1, 2] else [1]) 11 = true := by decide +kernel
theorem ck_2 : ck 3 [1] 2 = true := by
  have hp : point [1] 2 = true := by decide +kernel
  have ht : takes [1] 2 = true ∨ takes [1] 2 = false := by cases takes [1] 2 <;> simp
  have h : chk 3 (if takes [1] 2 then [1, 2] else [1]) 2 = true := chk_succ fun c h1 h2 => by
    match c, h1, h2 with
    | 2, _, _ => exact ck_2_2
    | 3, _, _ => exact ck_2_3
    | 4, _, _ => exact ck_2_4
    | 5, _, _ => exact ck_2_5
    | 6, _, _ => exact ck_2_6
    | 7, _, _ => exact ck_2_7
    | 8, _, _ => exact ck_2_8
    | 9, _, _ => exact ck_2_9
    | 10, _, _ => exact ck_2_10
    | 11, _, _ => exact ck_2_11
  unfold ck
  rw [hp, Bool.true_and]
  rcases ht with e | e <;> rw [e] at h ⊢ <;> exact h
theorem ck_3_3 : ck 2 (if takes [1] 3 then [1, 3] else [1]) 3 = true := by decide +kernel
theorem ck_3_4 : ck 2 (if takes [1] 3 then [1, 3] else [1]) 4 = true := by decide +kernel
theorem ck_3_5 : ck 2 (if takes [1] 3 then [1, 3] else [1]) 5 = true := by decide +kernel
theorem ck_3_6 : ck 2 (if takes [1] 3 then [1, 3] else [1]) 6 = true := by decide +kernel
theorem ck_3_7 : ck 2 (if takes [1] 3 then [1, 3] else [1]) 7 = true := by decide +kernel
theorem ck_3_8 : ck 2 (if takes [1] 3 then [1, 3] else [1]) 8 = true := by decide +kernel
theorem ck_3_9 : ck 2 (if takes [1] 3 then [1, 3] else [1]) 9 = true := by decide +kernel
theorem ck_3_10 : ck 2 (if takes [1] 3 then [1, 3] else [1]) 10 = true := by decide +kernel
theorem ck_3_11 : ck 2 (if takes [1] 3 then [1, 3] else [1]) 11 = true := by decide +kernel
theorem ck_3 : ck 3 [1] 3 = true := by
  have hp : point [1] 3 = true := by decide +kernel
  have ht : takes [1] 3 = true ∨ takes [1] 3 = false := by cases takes [1] 3 <;> simp
  have h : chk 3 (if takes [1] 3 then [1, 3] else [1]) 3 = true := chk_succ fun c h1 h2 => by
    match c, h1, h2 with
    | 3, _, _ => exact ck_3_3
    | 4, _, _ => exact ck_3_4
    | 5, _, _ => exact ck_3_5
    | 6, _, _ => exact ck_3_6
    | 7, _, _ => exact ck_3_7
    | 8, _, _ => exact ck_3_8
    | 9, _, _ => exact ck_3_9
    | 10, _, _ => exact ck_3_10
    | 11, _, _ => exact ck_3_11
  unfold ck
  rw [hp, Bool.true_and]
  rcases ht with e | e <;> rw [e] at h ⊢ <;> exact h
theorem ck_4_4 : ck 2 (if takes [1] 4 then [1, 4] else [1]) 4 = true := by decide +kernel
theorem ck_4_5 : ck 2 (if takes [1] 4 then [1, 4] else [1]) 5 = true := by decide +kernel
theorem ck_4_6 : ck 2 (if takes [1] 4 then [1, 4] else [1]) 6 = true := by decide +kernel
theorem ck_4_7 : ck 2 (if takes [1] 4 then [1, 4] else [1]) 7 = true := by decide +kernel
theorem ck_4_8 : ck 2 (if takes [1] 4 then [1, 4] else [1]) 8 = true := by decide +kernel
theorem ck_4_9 : ck 2 (if takes [1] 4 then [1, 4] else [1]) 9 = true := by decide +kernel
theorem ck_4_10 : ck 2 (if takes [1] 4 then [1, 4] else [1]) 10 = true := by decide +kernel
theorem ck_4_11 : ck 2 (if takes [1] 4 then [1, 4] else [1]) 11 = true := by decide +kernel
theorem ck_4 : ck 3 [1] 4 = true := by
  have hp : point [1] 4 = true := by decide +kernel
  have ht : takes [1] 4 = true ∨ takes [1] 4 = false := by cases takes [1] 4 <;> simp
  have h : chk 3 (if takes [1] 4 then [1, 4] else [1]) 4 = true := chk_succ fun c h1 h2 => by
    match c, h1, h2 with
    | 4, _, _ => exact ck_4_4
    | 5, _, _ => exact ck_4_5
    | 6, _, _ => exact ck_4_6
    | 7, _, _ => exact ck_4_7
    | 8, _, _ => exact ck_4_8
    | 9, _, _ => exact ck_4_9
    | 10, _, _ => exact ck_4_10
    | 11, _, _ => exact ck_4_11
  unfold ck
  rw [hp, Bool.true_and]
  rcases ht with e | e <;> rw [e] at h ⊢ <;> exact h
theorem ck_5 : ck 3 [1] 5 = true := by decide +kernel
theorem ck_6 : ck 3 [1] 6 = true := by decide +kernel
theorem ck_7 : ck 3 [1] 7 = true := by decide +kernel
theorem ck_8 : ck 3 [1] 8 = true := by decide +kernel
theorem ck_9 : ck 3 [1] 9 = true := by decide +kernel
theorem ck_10 : ck 3 [1] 10 = true := by decide +kernel
theorem ck_11 : ck 3 [1] 11 = true := by decide +kernel
theorem chk_all : chk 4 [1] 2 = true := chk_succ fun c h1 h2 => by
  match c, h1, h2 with
  | 2, _, _ => exact ck_2
  | 3, _, _ => exact ck_3
  | 4, _, _ => exact ck_4
  | 5, _, _ => exact ck_5
  | 6, _, _ => exact ck_6
  | 7, _, _ => exact ck_7
  | 8, _, _ => exact ck_8
  | 9, _, _ => exact ck_9
  | 10, _, _ => exact ck_10
  | 11, _, _ => exact ck_11
/-- behind all that are no greater -/
noncomputable def insR (key : Nat → Nat) (x : Nat) (l : List Nat) : List Nat := l.takeWhile (fun y => decide (key y ≤ key x)) ++ x :: l.dropWhile (fun y => decide (key y ≤ key x))
theorem takeWhile_len (p : Nat → Bool) : ∀ (l : List Nat) (r : Nat), (∀ i x, i < r → l[i]? = some x → p x = true) → (∀ x, l[r]? = some x → p x = false) → r ≤ l.length → (l.takeWhile p) = l.take r ∧ l.dropWhile p = l.drop r
  | [], r, _, _, hr => by
    have : r = 0 := by simpa using hr
    subst this; simp
  | y :: l, 0, _, h2, _ => by
    have := h2 y rfl
    simp [this]
  | y :: l, r + 1, h1, h2, hr => by
    have hy := h1 0 y (by (first | lia | omega)) rfl
    obtain ⟨a, b⟩ := takeWhile_len p l r (fun i x hi hx => h1 (i + 1) x (by (first | lia | omega)) (by simpa using hx)) (fun x hx => h2 x (by simpa using hx)) (by simpa using hr)
    simp [hy, a, b]
theorem insR_eq {key : Nat → Nat} {x : Nat} {l : List Nat} {r : Nat} (hr : r ≤ l.length) (h1 : ∀ i, i < r → key (l.getD i 0) ≤ key x) (h2 : ∀ i, r ≤ i → i < l.length → key x < key (l.getD i 0)) : l.take r ++ x :: l.drop r = insR key x l := by
  obtain ⟨a, b⟩ := takeWhile_len (fun y => decide (key y ≤ key x)) l r (fun i y hi hy => by
    have := h1 i hi
    rw [List.getD_eq_getElem?_getD, hy] at this
    exact decide_eq_true this) (fun y hy => by
    have hlt := (List.getElem?_eq_some_iff.mp hy).1
    have := h2 r (Nat.le_refl _) hlt
    rw [List.getD_eq_getElem?_getD, hy] at this
    exact decide_eq_false (by simpa using this)) hr
  unfold insR
  rw [a, b]
theorem insR_perm (key : Nat → Nat) (x : Nat) (l : List Nat) : (insR key x l).Perm (x :: l) := by
  unfold insR
  refine List.perm_middle.trans (List.Perm.cons _ ?_)
  rw [List.takeWhile_append_dropWhile]
theorem insR_sorted {key : Nat → Nat} {x : Nat} {l : List Nat} (h : l.Pairwise fun a b => key a ≤ key b) : (insR key x l).Pairwise fun a b => key a ≤ key b := by
  induction l with
  | nil => simp [insR]
  | cons y l ih =>
    obtain ⟨h1, h2⟩ := List.pairwise_cons.mp h
    by_cases q : key y ≤ key x
    · have e : insR key x (y :: l) = y :: insR key x l := by simp [insR, q]
      rw [e, List.pairwise_cons]
      refine ⟨fun a ha => ?_, ih h2⟩
      rcases List.mem_cons.mp ((insR_perm key x l).mem_iff.mp ha) with rfl | ha
      · exact q
      · exact h1 a ha
    · have e : insR key x (y :: l) = x :: y :: l := by simp [insR, q]
      rw [e, List.pairwise_cons]
      refine ⟨fun a ha => ?_, h⟩
      rcases List.mem_cons.mp ha with rfl | ha
      · (first | lia | omega)
      · have := h1 a ha
        (first | lia | omega)
theorem sorted_mono {key : Nat → Nat} {l : List Nat} (h : l.Pairwise fun a b => key a ≤ key b) (i j : Nat) (hij : i ≤ j) (hj : j < l.length) : key (l.getD i 0) ≤ key (l.getD j 0) := by
  rcases Nat.lt_or_eq_of_le hij with q | rfl
  · have := List.pairwise_iff_getElem.mp h i j (by (first | lia | omega)) hj q
    rw [List.getD_eq_getElem?_getD, List.getD_eq_getElem?_getD, List.getElem?_eq_getElem (by (first | lia | omega)), List.getElem?_eq_getElem hj]
    exact this
  · exact Nat.le_refl _
theorem insR_map (key : Nat → Nat) (φ : Nat → Nat) (i : Nat) (l : List Nat) : insR key (φ i) (l.map φ) = (insR (fun j => key (φ j)) i l).map φ := by
  unfold insR
  rw [List.takeWhile_map, List.dropWhile_map, List.map_append, List.map_cons]
  rfl
noncomputable def foldR (key : Nat → Nat) (ns : List Nat) : List Nat := ns.foldl (fun l n => insR key n l) []
theorem foldR_sorted (key : Nat → Nat) : ∀ (ns l : List Nat), l.Pairwise (fun a b => key a ≤ key b) → (ns.foldl (fun l n => insR key n l) l).Pairwise fun a b => key a ≤ key b
  | [], _, h => h
  | _ :: ns, _, h => foldR_sorted key ns _ (insR_sorted h)
theorem foldR_perm (key : Nat → Nat) : ∀ (ns l : List Nat), (ns.foldl (fun l n => insR key n l) l).Perm (ns ++ l)
  | [], _ => .refl _
  | n :: ns, l => (foldR_perm key ns _).trans ((List.Perm.append_left ns (insR_perm key n l)).trans List.perm_middle)
/-- the order that the model's sort finds for four keys -/
noncomputable def ord4 (k : List Nat) : List Nat := (runT (fun i j => decide (k.getD i 0 < k.getD j 0)) (kas_sort 4)).toList
theorem ord4_all : ∀ a b c d : Fin 6, ord4 [a.1, b.1, c.1, d.1] = foldR (fun i => [a.1, b.1, c.1, d.1].getD i 0) [0, 1, 2, 3] := by decide +kernel
theorem ltCps_rep : ∀ a b : Nat, Spec.ltCps (List.replicate a 32) (List.replicate b 32) = decide (a < b)
  | 0, 0 => rfl
  | 0, b + 1 => by rw [List.replicate_succ]; simp [Spec.ltCps]
  | a + 1, 0 => by rw [List.replicate_succ]; simp [Spec.ltCps]
  | a + 1, b + 1 => by
    rw [List.replicate_succ, List.replicate_succ, Spec.ltCps, ltCps_rep a b]
    simp
theorem risingS_rep : ∀ (ns : List Nat) (p : Nat), risingS (st (List.replicate p 32)) ((ns.map fun n => List.replicate n 32).map st) = true → (p :: ns).Pairwise (fun a b => a ≤ b)
  | [], p, _ => by simp
  | n :: ns, p, h => by
    rw [List.map_cons, List.map_cons, risingS, Bool.and_eq_true] at h
    have ih := risingS_rep ns n h.2
    have h1 : p ≤ n := by
      have := h.1
      simp only [st, ltCps_rep] at this
      simpa using this
    rw [List.pairwise_cons]
    refine ⟨fun a ha => ?_, ih⟩
    rcases List.mem_cons.mp ha with rfl | ha
    · exact h1
    · exact Nat.le_trans h1 ((List.pairwise_cons.mp ih).1 a ha)
theorem sortedS_rep {ns : List Nat} (h : sortedS ((ns.map fun n => List.replicate n 32).map st) = true) : ns.Pairwise (fun a b => a ≤ b) := by
  cases ns with
  | nil => exact .nil
  | cons n ns => exact risingS_rep ns n h
/-- sorted words are the words of the sorted lengths -/
theorem words_sorted {ss : List (List Nat)} {ns : List Nat} (hp : ss.Perm (ns.map fun n => List.replicate n 32)) (hs : sortedS (ss.map st) = true) : ss = (foldR (fun n => n) ns).map fun n => List.replicate n 32 := by
  have hw : ss = (ss.map List.length).map fun n => List.replicate n 32 := by
    rw [List.map_map]
    refine (List.map_id ss).symm.trans (List.map_congr_left fun x hx => ?_)
    obtain ⟨n, _, rfl⟩ := List.mem_map.mp (hp.mem_iff.mp hx)
    simp
  rw [hw] at hs
  have h1 := sortedS_rep hs
  have h2 : (ss.map List.length).Perm ns := by
    have := hp.map List.length
    rw [List.map_map] at this
    have e : ns.map (List.length ∘ fun n => List.replicate n 32) = ns := (List.map_congr_left fun x _ => by simp).trans (List.map_id ns)
    rw [e] at this; exact this
  have h3 : (foldR (fun n => n) ns).Perm ns := by
    have := foldR_perm (fun n => n) ns []
    rw [List.append_nil] at this; exact this
  have h4 : ss.map List.length = foldR (fun n => n) ns :=
    List.Perm.eq_of_pairwise (le := fun a b => a ≤ b) (fun a b _ _ h1 h2 => Nat.le_antisymm h1 h2) h1 (foldR_sorted (fun n => n) ns [] .nil) (h2.trans h3.symm)
  rw [hw, h4]
theorem foldR_map (key φ : Nat → Nat) : ∀ (idx l : List Nat), (idx.map φ).foldl (fun l n => insR key n l) (l.map φ) = (idx.foldl (fun l n => insR (fun j => key (φ j)) n l) l).map φ
  | [], _ => rfl
  | i :: idx, l => by
    rw [List.map_cons, List.foldl_cons, List.foldl_cons, insR_map]
    exact foldR_map key φ idx _
theorem halves_ord {a b c d : Nat} (ha : a ≤ 11) (hb : b ≤ 11) (hc : c ≤ 11) (hd : d ≤ 11) :
    (ord4 [a / 2, b / 2, c / 2, d / 2]).map (fun i => [a, b, c, d].getD i 0) = foldR (fun n => n / 2) [a, b, c, d] := by
  have h := ord4_all ⟨a / 2, by (first | lia | omega)⟩ ⟨b / 2, by (first | lia | omega)⟩ ⟨c / 2, by (first | lia | omega)⟩ ⟨d / 2, by (first | lia | omega)⟩
  dsimp only at h
  rw [h]
  have e : (fun i => [a / 2, b / 2, c / 2, d / 2].getD i 0) = fun j => (fun n => n / 2) ((fun i => [a, b, c, d].getD i 0) j) := by
    funext i
    match i with
    | 0 => rfl
    | 1 => rfl
    | 2 => rfl
    | 3 => rfl
    | i + 4 => simp
  rw [e]
  exact (foldR_map (fun n => n / 2) (fun i => [a, b, c, d].getD i 0) [0, 1, 2, 3] []).symm
-- the lexer, plainly
theorem lx_nl (t : List Nat) : ∀ j, lx (List.replicate j 10 ++ t) = lx t
  | 0 => rfl
  | j + 1 => by
    rw [List.replicate_succ, List.cons_append, lx, if_pos (by decide), lx_nl t j]
theorem lxQ_word (rest : List Nat) : ∀ (n : Nat) (t : List Nat), lxQ (List.replicate n 32 ++ 34 :: rest) t = (t ++ List.replicate n 32, rest)
  | 0, t => by
    show lxQ (34 :: rest) t = _
    rw [lxQ_cons, if_pos rfl]; simp
  | n + 1, t => by
    rw [List.replicate_succ, List.cons_append, lxQ_cons, if_neg (by decide), if_neg (by decide), lxQ_word rest n]
    rw [List.append_assoc]; rfl
theorem lxW_word {c : Nat} (hc : isWs c = true) (rest : List Nat) : ∀ (n : Nat) (t : List Nat), lxW ((List.replicate n [92, 32]).flatten ++ c :: rest) t = (t ++ List.replicate n 32, rest)
  | 0, t => by
    show lxW (c :: rest) t = _
    rw [lxW_cons, if_pos hc]; simp
  | n + 1, t => by
    rw [List.replicate_succ, List.flatten_cons]
    show lxW (92 :: 32 :: ((List.replicate n [92, 32]).flatten ++ c :: rest)) t = _
    rw [lxW_cons, if_neg (by decide), if_pos rfl]
    show lxW ((List.replicate n [92, 32]).flatten ++ c :: rest) (t ++ [32]) = _
    rw [lxW_word hc rest n, List.append_assoc]; rfl
/-- a word as the law writes it, read -/
theorem lx_written {n : Nat} (hn : 1 ≤ n) (way : Nat) (rest : List Nat) : ∃ j, j ≤ 1 ∧ lx (wrF n way ++ rest) = (List.replicate n 32, List.replicate j 10 ++ rest) := by
  unfold wrF
  by_cases q : way % 2 = 1
  · rw [if_pos q]
    refine ⟨0, by (first | lia | omega), ?_⟩
    have hc : isWs ([10, 9, 13, 32].getD (way / 2 % 4) 0) = true := by
      have hw4 : way / 2 % 4 < 4 := Nat.mod_lt _ (by decide)
      generalize way / 2 % 4 = x at hw4 ⊢
      match x, hw4 with
      | 0, _ => rfl
      | 1, _ => rfl
      | 2, _ => rfl
      | 3, _ => rfl
    obtain ⟨n, rfl⟩ : ∃ m, n = m + 1 := ⟨n - 1, by (first | lia | omega)⟩
    rw [List.replicate_succ, List.flatten_cons]
    show lx (92 :: 32 :: (((List.replicate n [92, 32]).flatten ++ [[10, 9, 13, 32].getD (way / 2 % 4) 0]) ++ rest)) = _
    rw [lx, if_neg (by decide), if_neg (by decide), if_pos rfl]
    show lxW (((List.replicate n [92, 32]).flatten ++ [[10, 9, 13, 32].getD (way / 2 % 4) 0]) ++ rest) [32] = _
    rw [List.append_assoc, List.singleton_append, lxW_word hc]
    rfl
  · rw [if_neg q]
    refine ⟨way / 2 % 2, by (first | lia | omega), ?_⟩
    have e : [34] ++ List.replicate n 32 ++ [34] ++ List.replicate (way / 2 % 2) 10 ++ rest = 34 :: (List.replicate n 32 ++ 34 :: (List.replicate (way / 2 % 2) 10 ++ rest)) := by simp
    rw [e, lx, if_neg (by decide), if_pos rfl, lxQ_word]
    simp
theorem lx_end (j : Nat) : lx (List.replicate j 10 ++ [101, 110, 100]) = ([101, 110, 100], []) := by
  rw [lx_nl]; decide
theorem lx_empty : lx [] = ([], []) := rfl
theorem wrF_len (n way : Nat) : (wrF n way).length ≤ 2 * n + 10 := by
  unfold wrF
  split
  · simp [List.length_flatten]; (first | lia | omega)
  · simp; (first | lia | omega)
theorem wrF_ascii (n way : Nat) : ∀ c ∈ wrF n way, c < 128 := by
  intro c hc
  unfold wrF at hc
  split at hc
  · rcases List.mem_append.mp hc with h | h
    · obtain ⟨l, hl, hcl⟩ := List.mem_flatten.mp h
      rw [List.eq_of_mem_replicate hl] at hcl
      simp at hcl; (first | lia | omega)
    · rw [List.mem_singleton.mp h]
      have hw4 : way / 2 % 4 < 4 := Nat.mod_lt _ (by decide)
      generalize way / 2 % 4 = x at hw4 ⊢
      match x, hw4 with
      | 0, _ => decide
      | 1, _ => decide
      | 2, _ => decide
      | 3, _ => decide
  · simp at hc
    (first | lia | omega)
-- the tab stops, plainly
noncomputable def runs (rs : List Nat) : List Nat := glue [9] (rs.map fun r => List.replicate r 32)
theorem bump_len (c : List Nat) (b : Nat) : (bump c b).length = max c.length (b + 1) := by
  unfold bump
  rw [List.length_set, List.length_append, List.length_replicate]; (first | lia | omega)
theorem bump_getD (c : List Nat) (b i : Nat) : (bump c b).getD i 0 = c.getD i 0 + (if i = b then 1 else 0) := by
  have e : ∀ j, (c ++ List.replicate (b + 1 - c.length) 0).getD j 0 = c.getD j 0 := by
    intro j
    simp only [List.getD_eq_getElem?_getD, List.getElem?_append]
    split
    · rfl
    · rw [List.getElem?_eq_none (l := c) (by (first | lia | omega)), List.getElem?_replicate]
      split <;> rfl
  unfold bump
  dsimp only
  rw [e]
  by_cases q : i = b
  · subst q
    rw [if_pos rfl, List.getD_eq_getElem?_getD, List.getElem?_set, if_pos rfl, if_pos (by rw [List.length_append, List.length_replicate]; (first | lia | omega))]
    rfl
  · rw [if_neg q, ← e i, List.getD_eq_getElem?_getD, List.getElem?_set, if_neg (fun h => q h.symm), ← List.getD_eq_getElem?_getD]
    rfl
theorem isum_bump (c : List Nat) (b tab : Nat) (htab : 0 < tab) : ∀ k, isum (bump c b) tab k = isum c tab k + (if b < k then b / tab else 0)
  | 0 => rfl
  | k + 1 => by
    rw [isum, isum, isum_bump c b tab htab k, bump_getD]
    by_cases h1 : tab ≤ k
    · rw [if_pos h1, if_pos h1]
      by_cases h2 : k = b
      · subst h2
        rw [if_pos rfl, if_neg (Nat.lt_irrefl _), if_pos (Nat.lt_succ_self _), Nat.mul_add]; (first | lia | omega)
      · rw [if_neg h2]
        by_cases h3 : b < k
        · rw [if_pos h3, if_pos (by (first | lia | omega)), Nat.add_zero]; (first | lia | omega)
        · rw [if_neg h3, if_neg (by (first | lia | omega))]; simp only [Nat.add_zero]
    · rw [if_neg h1, if_neg h1]
      by_cases h3 : b < k
      · rw [if_pos h3, if_pos (by (first | lia | omega))]; (first | lia | omega)
      · rw [if_neg h3]
        split
        · have : b / tab = 0 := Nat.div_eq_of_lt (by (first | lia | omega))
          (first | lia | omega)
        · rfl
noncomputable def wt (c : List Nat) (tab : Nat) : Nat := isum c tab c.length
theorem wt_bump (c : List Nat) (b tab : Nat) (htab : 0 < tab) : wt (bump c b) tab = wt c tab + b / tab := by
  unfold wt
  rw [isum_bump c b tab htab, bump_len, isum_high c tab _ (by (first | lia | omega)), if_pos (by (first | lia | omega))]
theorem ws_blanks (c : List Nat) (nt : Nat) : ∀ (r b : Nat), (List.replicate r 32).foldl wsStep (c, b, nt) = (c, b + r, nt)
  | 0, b => rfl
  | r + 1, b => by
    rw [List.replicate_succ, List.foldl_cons]
    show (List.replicate r 32).foldl wsStep (c, b + 1, nt) = _
    rw [ws_blanks c nt r (b + 1)]
    congr 2; (first | lia | omega)
theorem ws_runs (tab : Nat) (htab : 0 < tab) : ∀ (rs : List Nat) (r : Nat) (c : List Nat) (nt : Nat), ∃ c', (runs (r :: rs)).foldl wsStep (c, 0, nt) = (c', (r :: rs).getLastD 0, nt + rs.length) ∧ wt c' tab = wt c tab + (((r :: rs).dropLast).map (· / tab)).sum ∧ c'.length ≤ c.length + (runs (r :: rs)).length + 1
  | [], r, c, nt => by
    refine ⟨c, ?_, by simp, by (first | lia | omega)⟩
    show (List.replicate r 32).foldl wsStep (c, 0, nt) = _
    rw [ws_blanks]
    simp
  | r2 :: rs, r, c, nt => by
    have e : runs (r :: r2 :: rs) = List.replicate r 32 ++ [9] ++ runs (r2 :: rs) := rfl
    obtain ⟨c', h1, h2, h3⟩ := ws_runs tab htab rs r2 (bump c r) (nt + 1)
    refine ⟨c', ?_, ?_, ?_⟩
    · rw [e, List.foldl_append, List.foldl_append, ws_blanks, Nat.zero_add]
      show (runs (r2 :: rs)).foldl wsStep (bump c r, 0, nt + 1) = _
      rw [h1]
      refine Prod.ext rfl (Prod.ext ?_ ?_)
      · simp
      · simp; (first | lia | omega)
    · rw [h2, wt_bump c r tab htab]
      simp only [List.dropLast_cons_cons, List.map_cons, List.sum_cons]
      (first | lia | omega)
    · rw [bump_len] at h3
      rw [e]
      simp only [List.length_append, List.length_replicate, List.length_singleton]
      (first | lia | omega)
theorem runs_len (rs : List Nat) (r : Nat) : (runs (r :: rs)).length = (r :: rs).sum + rs.length := by
  induction rs generalizing r with
  | nil => simp [runs, glue]
  | cons r2 rs ih =>
    have e : runs (r :: r2 :: rs) = List.replicate r 32 ++ [9] ++ runs (r2 :: rs) := rfl
    rw [e]
    simp only [List.length_append, List.length_replicate, ih, List.sum_cons, List.length_cons, List.length_nil]
    (first | lia | omega)
theorem runs_mem (rs : List Nat) : ∀ c ∈ runs rs, c = 32 ∨ c = 9 := by
  induction rs with
  | nil => intro c h; cases h
  | cons r rs ih =>
    intro c h
    cases rs with
    | nil =>
      have h : c ∈ List.replicate r 32 := h
      exact .inl (List.eq_of_mem_replicate h)
    | cons r2 rs =>
      have e : runs (r :: r2 :: rs) = List.replicate r 32 ++ [9] ++ runs (r2 :: rs) := rfl
      rw [e] at h
      rcases List.mem_append.mp h with h | h
      · rcases List.mem_append.mp h with h | h
        · exact .inl (List.eq_of_mem_replicate h)
        · exact .inr (List.mem_singleton.mp h)
      · exact ih c h
theorem lookup_mem {x : Str} {v : Value} : ∀ {l : List (Str × Value)}, l.lookup x = some v → (x, v) ∈ l
  | [], h => by cases h
  | (y, u) :: r, h => by
    rw [List.lookup_cons] at h
    cases q : x == y with
    | true =>
      rw [q] at h
      cases h
      rw [show x = y from by simpa using q]
      exact .head _
    | false =>
      rw [q] at h
      exact .tail _ (lookup_mem h)
theorem mkBs {p : Program} {w : World} {hb : Heap} {mean : ExcName → Option Value} {mg mb : Str → Option Value} {loose : List Str} (X : (KK w.params).In hb) (T : Top p loose mean mg mb hb) (hc : CodeHd hb 226 222 ∧ CodeHd hb 200 196 ∧ CodeHd hb 114 110 ∧ CodeHd hb 107 103) : Bs w hb where
  X := X
  ns := by
    refine ⟨mg, mb, T.g, T.b, fun x v hx => ?_, fun x v hx => ?_⟩
    · have hm := lookup_mem hx
      unfold gtab at hm
      simp only [List.mem_cons, List.not_mem_nil, or_false, Prod.mk.injEq] at hm
      rcases hm with ⟨rfl, rfl⟩ | ⟨rfl, rfl⟩ | ⟨rfl, rfl⟩ | ⟨rfl, rfl⟩ | ⟨rfl, rfl⟩ | ⟨rfl, rfl⟩ | ⟨rfl, rfl⟩ | ⟨rfl, rfl⟩ | ⟨rfl, rfl⟩ | ⟨rfl, rfl⟩ | ⟨rfl, rfl⟩ | ⟨rfl, rfl⟩ | ⟨rfl, rfl⟩ | ⟨rfl, rfl⟩ | ⟨rfl, rfl⟩ | ⟨rfl, rfl⟩ | ⟨rfl, rfl⟩
      all_goals first
        | exact .inl (mg_of X T.g (by rfl))
        | exact .inr ⟨rfl, _, mg_of X T.g (by rfl)⟩
    · have hm := lookup_mem hx
      unfold btab at hm
      simp only [List.mem_cons, List.not_mem_nil, or_false, Prod.mk.injEq] at hm
      rcases hm with ⟨rfl, rfl⟩ | ⟨rfl, rfl⟩ | ⟨rfl, rfl⟩ | ⟨rfl, rfl⟩ | ⟨rfl, rfl⟩ | ⟨rfl, rfl⟩ | ⟨rfl, rfl⟩ | ⟨rfl, rfl⟩ | ⟨rfl, rfl⟩ | ⟨rfl, rfl⟩ | ⟨rfl, rfl⟩
      all_goals exact ⟨mg_none_of X T.g (by rfl), (T.builtins _ (by decide +kernel)).trans (by decide +kernel)⟩
  nolimit := T.nolimit
  bm := by
    obtain ⟨bm, ob, h1, h2, h3, h4⟩ := T.bmain
    refine ⟨mg, bm, ob, T.g, h1, h2, fun q => ?_, h3, h4⟩
    subst q
    obtain ⟨o, es, ep, e, hd, _⟩ := T.g
    rw [h3] at e
    cases e
    rw [hd] at h4
    cases h4.2.2
  code := hc
open PySem PySem.Calls PyProof.Rows PySem.W PySem.SeqAt
noncomputable abbrev Rd (h : Heap) (v : Value) (d : PyData) : Prop := ∃ as, Reads h v d as
noncomputable abbrev RdA (h : Heap) (vs : List Value) (ds : List PyData) : Prop := ∃ as, ReadsAll h vs ds as
section
variable {w : World} {hb h h' : Heap} {L : Addr} {m : Str → Option Value} {own own' : List (Addr × Cel)} {A : Around} {E : Value → Shared → Prop} {hp : Heap} {g : Array GenState} {d : Drawn} {tk : Nat} {os : OsState} {env : Env} {l : Addr} {vs : List Value}
theorem rdI {i : Int} {t : Tok} : Rd h (.int i t) (.int i) := ⟨_, .int i t⟩
theorem rdB {b : Bool} : Rd h (.bool b) (.bool b) := ⟨_, .bool b⟩
theorem rdS {x : Str} {t : Tok} : Rd h (.str x t) (.str x) := ⟨_, .str x t⟩
theorem rdL {ds : List PyData} (hl : (Cel.lst vs).At h l) (ha : RdA h vs ds) : Rd h (.ref l) (.list ds) := by
  obtain ⟨n, e⟩ := hl
  obtain ⟨as, ha⟩ := ha
  exact ⟨_, .list e rfl rfl (by simpa using ha)⟩
theorem rd0 : RdA h [] [] := ⟨_, .nil⟩
theorem rdC {v : Value} {d : PyData} {ds : List PyData} (h1 : Rd h v d) (h2 : RdA h vs ds) : RdA h (v :: vs) (d :: ds) := by
  obtain ⟨as, h1⟩ := h1
  obtain ⟨bs, h2⟩ := h2
  exact ⟨_, .cons h1 h2⟩
theorem rdInts {ks : List Int} : ∀ {vs : List Value}, vs.map ival = ks.map some → RdA h vs (ks.map .int) := by
  induction ks with
  | nil => intro vs e; cases vs with
    | nil => exact rd0
    | cons => cases e
  | cons k ks ih =>
    intro vs e
    cases vs with
    | nil => cases e
    | cons v vs =>
      rw [List.map_cons, List.map_cons] at e
      obtain ⟨h1, h2⟩ := List.cons.inj e
      obtain ⟨t, rfl⟩ := ival_some h1
      exact rdC rdI (ih h2)
theorem rdStrs {ks : List (List Nat)} : ∀ {vs : List Value}, vs.map sval = ks.map some → RdA h vs (ks.map fun k => .str (st k)) := by
  induction ks with
  | nil => intro vs e; cases vs with
    | nil => exact rd0
    | cons => cases e
  | cons k ks ih =>
    intro vs e
    cases vs with
    | nil => cases e
    | cons v vs =>
      rw [List.map_cons, List.map_cons] at e
      obtain ⟨h1, h2⟩ := List.cons.inj e
      obtain ⟨t, rfl⟩ := sval_some h1
      exact rdC rdS (ih h2)
theorem neSame {a b : Value} {da : PyData} {s : Shared} {Q : Value → Shared → Prop} (ra : Rd s.heap a da) (rb : Rd s.heap b da) (hs : shaped da = true) (hu : A.units + 64 < cLine) (h : Q (.bool false) s) : wpAny (model PG w) A (compareOp .NotEq a b) Q E s := by
  obtain ⟨as, ra⟩ := ra
  obtain ⟨bs, rb⟩ := rb
  refine ne_dataH ra rb hs hs hu ?_
  rw [eqv_refl da (canLay_of_shaped hs)]
  exact h
theorem eqSame {a b : Value} {da : PyData} {s : Shared} {Q : Value → Shared → Prop} (ra : Rd s.heap a da) (rb : Rd s.heap b da) (hs : shaped da = true) (hu : A.units + 64 < cLine) (h : Q (.bool true) s) : wpAny (model PG w) A (compareOp .Eq a b) Q E s := by
  obtain ⟨as, ra⟩ := ra
  obtain ⟨bs, rb⟩ := rb
  refine eq_dataH ra rb hs hs hu ?_
  rw [eqv_refl da (canLay_of_shaped hs)]
  exact h
theorem eqvAll_ints : ∀ a b : List Int, PyData.eqvAll (a.map .int) (b.map .int) = decide (a = b)
  | [], [] => rfl
  | [], _ :: _ => rfl
  | _ :: _, [] => rfl
  | x :: a, y :: b => by
    rw [List.map_cons, List.map_cons]
    show ((x == y) && PyData.eqvAll (a.map .int) (b.map .int)) = _
    rw [eqvAll_ints a b]
    by_cases q : x = y
    · subst q; simp
    · simp [q]
theorem layAll_ints : ∀ a : List Int, PyData.canLayAll0 (a.map .int) = true
  | [] => rfl
  | x :: a => by
    rw [List.map_cons]
    show (true && PyData.canLayAll0 (a.map .int)) = true
    rw [layAll_ints a]; rfl
theorem depthAll_ints : ∀ a : List Int, PyData.depthAll (a.map .int) = 0
  | [] => rfl
  | x :: a => by
    rw [List.map_cons]
    show max 0 (PyData.depthAll (a.map .int)) = 0
    rw [depthAll_ints a]; rfl
theorem strOk_words {k : List Nat} (h : ∀ c ∈ k, c < 128) : PyData.strOk (st k) = true := by
  unfold PyData.strOk
  rw [Array.all_eq_true']
  intro c hc
  have : c ∈ k := by simpa [st] using hc
  have := h c this
  simp; omega
theorem layAll_strs : ∀ ks : List (List Nat), (∀ k ∈ ks, ∀ c ∈ k, c < 128) → PyData.canLayAll0 (ks.map fun k => .str (st k)) = true
  | [], _ => rfl
  | x :: a, h => by
    rw [List.map_cons]
    show (PyData.strOk (st x) && PyData.canLayAll0 (a.map fun k => .str (st k))) = true
    rw [strOk_words (h x (.head _)), layAll_strs a fun k hk => h k (.tail _ hk)]; rfl
theorem depthAll_strs : ∀ ks : List (List Nat), PyData.depthAll (ks.map fun k => .str (st k)) = 0
  | [] => rfl
  | x :: a => by
    rw [List.map_cons]
    show max 0 (PyData.depthAll (a.map fun k => .str (st k))) = 0
    rw [depthAll_strs a]; rfl
theorem eqInts {a b : Value} {x y : List Int} {s : Shared} {Q : Value → Shared → Prop} (ra : Rd s.heap a (.list (x.map .int))) (rb : Rd s.heap b (.list (y.map .int))) (hu : A.units + 64 < cLine) (h : Q (.bool (decide (x = y))) s) : wpAny (model PG w) A (compareOp .Eq a b) Q E s := by
  obtain ⟨as, ra⟩ := ra
  obtain ⟨bs, rb⟩ := rb
  have hs : ∀ z : List Int, shaped (.list (z.map .int)) = true := fun z => by
    unfold shaped
    show (PyData.canLayAll0 (z.map .int) && decide (PyData.depthAll (z.map .int) + 1 ≤ 64)) = true
    rw [layAll_ints, depthAll_ints]; rfl
  refine eq_dataH ra rb (hs x) (hs y) hu ?_
  show Q (.bool (PyData.eqvAll (x.map .int) (y.map .int))) s
  rw [eqvAll_ints]
  exact h
/-- word[1:] -/
theorem slcE1 {a : PySem.Expr} {p : Pos} {s : Shared} {Q : Value → Shared → Prop} (h : wpAny (model PG w) A (eval a env) (fun l s₃ => Q (.ref s₃.heap.objs.size) { s₃ with heap := s₃.heap.push { cls := .type "slice", data := .fields #[l, .none, .none] } }) E s) :
    wpAny (model PG w) A (eval (.Slice (some a) none none p) env) Q E s :=
  wpAny_Slice (wpAny_mono h (fun _ _ h₁ => wpAny_pure (wpAny_pure h₁)) fun _ _ e => e)
theorem slcS1 {value slice : Expr} {a : List Nat} {t u : Tok} {Q : Value → Shared → Prop} (S : St hb hp L m own) (ha : 1 ≤ a.length) (hz : a.length < 1000000) (h : ∀ h' t' k, St hb h' L m own → Q (.str (st (a.drop 1)) t') ⟨h', g, d, k, os⟩)
    (hs : subscripted slice false (.str (st a) t) (.ref hp.objs.size) = operate [.ref hp.objs.size, .str (st a) t] (getItem (.str (st a) t) (.ref hp.objs.size)) := by with_unfolding_all rfl)
    (ht : ∀ r, letTemporaryGo value (.str (st a) t) r = pure () := by intro _; with_unfolding_all rfl) :
    wpAny (model PG w) A (subscriptTail value slice (.str (st a) t) (.ref hp.objs.size)) Q E ⟨hp.push { cls := .type "slice", data := .fields #[.int 1 u, .none, .none] }, g, d, tk, os⟩ := by
  have hl : (st a).length = a.length := st_len a
  have hz' : (st a).length ≤ sizeLine := by
    have z : sizeLine = 16777216 := by decide
    omega
  have e : Txt.slice (st a) (some 1) none = st (a.drop 1) := by
    rw [slice_from_eq (b := (st a).length) (by decide) (by omega) rfl]
    have : (st a).cps.toList = a := by simp [st]
    rw [this]
    show (⟨_⟩ : Str) = ⟨_⟩
    rw [show (1 : Int).toNat = 1 from rfl, List.take_of_length_le (by rw [List.length_drop]; omega)]
  refine tail_of_ItemOn (SBH.sliceItem_sn (s := ⟨hp, g, d, tk, os⟩) (P := fun h => St hb h L m own) (fun _ ob S => S.push0 ob) S (fun h' t' k S' => by rw [e]; exact h h' t' k S') hz') hs ht
theorem cntNl {a : List Nat} {t u : Tok} {Q : Value → Shared → Prop} (h : ∀ t' k, Q (.int (a.count 10 : Nat) t') ⟨hp, g, d, k, os⟩) : wpAny (model PG w) A (call (.builtin "str.count") [.str (st a) t, .str (st [10]) u]) Q E ⟨hp, g, d, tk, os⟩ := by
  refine SC.count ?_
  have e : Txt.count (st a) (st [10]) = ((a.count 10 : Nat) : Int) := by
    show Txt.count (st a) ⟨#[10]⟩ = _
    rw [count_cnt]
    have : (st a).cps.toList = a := by simp [st]
    rw [this]
    clear this h
    induction a with
    | nil => rfl
    | cons x a ih =>
      rw [cnt_cons, ih, List.count_cons]
      by_cases q : x = 10
      · subst q; simp; omega
      · simp [q]
  rw [e]
  exact h _ _
end
theorem bisect_spec3 {w : World} {hb : Heap} {L : Addr} {m : Str → Option Value} {own : List (Addr × Cel)} {A : Around} {E : Value → Shared → Prop} {hp : Heap} {g : Array GenState} {d : Drawn} {tk : Nat} {os : OsState} {Q : Value → Shared → Prop} (B : Bs w hb) (S : St hb hp L m own)
    {l : Addr} {vs : List Value} {x lo : Int} {tx tl : Tok} {kv : Value} {f : Nat → Int} {F : Value → Int → Prop} {Kp : List (Addr × Cel) → Prop} (hl : (l, .lst vs) ∈ own) (K : KeyOk w hb kv F Kp) (hF : ∀ i v, vs[i]? = some v → F v (f i)) (hK : Kp own) (hlo : 0 ≤ lo) (hz : vs.length < 1000) (mono : ∀ i j : Nat, lo ≤ i → i ≤ j → j < vs.length → f i ≤ f j)
    (hr : A.depth + 10 < recursionLimit)
    (h : ∀ h' tk t' r, St hb h' L m own → (lo ≤ r ∧ (r ≤ vs.length ∨ r = lo)) → (∀ i : Nat, lo ≤ i → i < r → f i ≤ x) → (∀ i : Nat, r ≤ i → i < vs.length → x < f i) → Q (.int r t') ⟨h', g, d, tk, os⟩) :
    wpAny (model PG w) A (PySem.call (.ref 147) [.ref l, .int x tx, .int lo tl] [("key", kv)]) Q E ⟨hp, g, d, tk, os⟩ := by
  refine bisect_gen (tx := tx) (tl := tl) (hiV := .none) B S (fun {fd oc od osl} e => ?_) hl K hF hK vs.length (.inl ⟨rfl, rfl⟩) hlo hz mono hr h
  rw [show (KK w.params).lookup 147 = some ⟨_, _, .func _, _⟩ from rfl] at e
  injection e with e
  injection e with _ _ e _
  injection e with e
  subst e
  exact bindD B S rfl (by rfl) rfl rfl rfl
noncomputable def indA (a : List Nat) (tab : Nat) : Nat := ind (wsF a).1 (wsF a).2.1 (wsF a).2.2 tab
theorem indA_runs (r : Nat) (rs : List Nat) {tab : Nat} (htab : 0 < tab) : (wsF (runs (r :: rs))).2.2 = rs.length ∧ indA (runs (r :: rs)) tab = (r :: rs).getLastD 0 + tab * ((((r :: rs).dropLast).map (· / tab)).sum + rs.length) := by
  obtain ⟨c', h1, h2, h3⟩ := ws_runs tab htab rs r [] 0
  have e : wsF (runs (r :: rs)) = (c', (r :: rs).getLastD 0, rs.length) := by
    unfold wsF; rw [h1, Nat.zero_add]
  refine ⟨by rw [e], ?_⟩
  unfold indA ind
  rw [e]
  have h4 : isum c' tab c'.length = (((r :: rs).dropLast).map (· / tab)).sum := by
    have : wt c' tab = wt [] tab + (((r :: rs).dropLast).map (· / tab)).sum := h2
    have h0 : wt [] tab = 0 := rfl
    rw [h0, Nat.zero_add] at this
    exact this
  dsimp only
  rw [h4]
theorem ws_len (a : List Nat) : (wsF a).1.length ≤ a.length ∧ (wsF a).2.1 ≤ a.length := by
  have key : ∀ (a : List Nat) (c : List Nat) (b nt : Nat), (a.foldl wsStep (c, b, nt)).1.length ≤ max c.length (b + a.length) ∧ (a.foldl wsStep (c, b, nt)).2.1 ≤ b + a.length := by
    intro a
    induction a with
    | nil => intro c b nt; exact ⟨Nat.le_max_left _ _, by simp⟩
    | cons x a ih =>
      intro c b nt
      rw [List.foldl_cons]
      unfold wsStep
      split
      · obtain ⟨h1, h2⟩ := ih c (b + 1) nt
        refine ⟨Nat.le_trans h1 ?_, Nat.le_trans h2 (by rw [List.length_cons]; (first | lia | omega))⟩
        rw [List.length_cons]
        (first | lia | omega)
      · obtain ⟨h1, h2⟩ := ih (bump c b) 0 (nt + 1)
        refine ⟨Nat.le_trans h1 ?_, Nat.le_trans h2 (by rw [List.length_cons]; (first | lia | omega))⟩
        rw [bump_len, List.length_cons]
        (first | lia | omega)
  have := key a [] 0 0
  unfold wsF
  simpa using this
theorem indA_stop (r : Nat) {tab : Nat} (htab : 0 < tab) : indA (List.replicate r 32 ++ [9]) tab = tab * (r / tab + 1) := by
  have e : wsF (List.replicate r 32 ++ [9]) = (bump [] r, 0, 1) := by
    unfold wsF
    rw [List.foldl_append, ws_blanks, Nat.zero_add]; rfl
  unfold indA ind
  rw [e]
  dsimp only
  have : wt (bump [] r) tab = wt [] tab + r / tab := wt_bump [] r tab htab
  have h0 : wt [] tab = 0 := rfl
  unfold wt at this h0
  rw [this, h0, Nat.zero_add, Nat.zero_add]
theorem sum_last : ∀ (rs : List Nat) (r : Nat), (r :: rs).dropLast.sum + (r :: rs).getLastD 0 = (r :: rs).sum
  | [], r => by simp
  | r2 :: rs, r => by
    have := sum_last rs r2
    simp only [List.dropLast_cons_cons, List.sum_cons, List.getLastD_cons] at this ⊢
    (first | lia | omega)
theorem map_div_one (l : List Nat) : l.map (· / 1) = l := by
  refine (List.map_congr_left fun x _ => Nat.div_one x).trans (List.map_id l)
theorem indA_one (r : Nat) (rs : List Nat) : indA (runs (r :: rs)) 1 = (r :: rs).sum + rs.length := by
  rw [(indA_runs r rs (by decide : 0 < 1)).2, map_div_one, Nat.one_mul]
  have := sum_last rs r
  (first | lia | omega)
/-- what a turn of the law's loop computes -/
structure Turn (cs : List Nat) (c last q : Nat) (hand : List Nat) : Prop where
  q1 : 1 ≤ q
  cle : c ≤ last * q
  sle : last * q ≤ last + c
  hsum : hand.sum = last * q - c
  small : ∀ x ∈ hand, x < last
  tak : takes cs c = decide (1 + hand.length ≤ q)
  tab : ((tabF (cs ++ [c]) (last + c)).1 == (tabF (cs ++ [c]) (last + c)).2) = takes cs c
  qk : (tabF (cs ++ [c]) (last + c)).1.getD (last * q) 0 = 1 + hand.length
  e1 : indA (List.replicate (c - 1) 32 ++ [9]) last = last * q
  o1 : indA (runs (List.replicate q last)) 1 = last * q + (q - 1) ∧ (wsF (runs (List.replicate q last))).2.2 = q - 1
  o2 : indA (runs (List.replicate q last)) last + last = 2 * (last * q)
  n1 : indA (runs (c :: hand)) 1 = last * q + hand.length ∧ (wsF (runs (c :: hand))).2.2 = hand.length
  n2 : indA (runs (c :: hand)) last = last * q + (if hand = [] then 0 else last * (hand.length - 1) + hand.getLastD 0)
  hlen : hand.length ≤ last * q - c
theorem turn_of {cs : List Nat} {c last q : Nat} (hl : last = cs.getLastD 1) (hq : q = (c - 1) / last + 1) (hp : point cs c = true) (hl1 : 1 ≤ last) (hc1 : 1 ≤ c) (hpos : ∀ x ∈ qh cs (last * q - c), 1 ≤ x) : Turn cs c last q (qh cs (last * q - c)) := by
  obtain ⟨hand, hh⟩ : ∃ hand, hand = qh cs (last * q - c) := ⟨_, rfl⟩
  rw [← hh] at hpos ⊢
  unfold point at hp
  dsimp only at hp
  rw [← hl, ← hq, ← hh] at hp
  simp only [Bool.and_eq_true, beq_iff_eq, decide_eq_true_eq, List.all_eq_true] at hp
  obtain ⟨⟨⟨⟨⟨p1, p2⟩, p3⟩, p4⟩, p5⟩, p6⟩ := hp
  have ht : takes cs c = decide (1 + hand.length ≤ q) := by
    unfold takes
    dsimp only
    rw [← hl, ← hq, ← hh]
  have hq1 : 1 ≤ q := by rw [hq]; exact Nat.le_add_left _ _
  obtain ⟨q', rfl⟩ : ∃ q', q = q' + 1 := ⟨q - 1, by (first | lia | omega)⟩
  have hq' : (c - 1) / last = q' := (Nat.succ.inj hq).symm
  have hdm := Nat.div_add_mod (c - 1) last
  have hlt := Nat.mod_lt (c - 1) (show 0 < last by (first | lia | omega))
  rw [hq'] at hdm
  have hlq : last * (q' + 1) = last * q' + last := by rw [Nat.mul_add, Nat.mul_one]
  have hrep : List.replicate (q' + 1) last = last :: List.replicate q' last := rfl
  have hrs : (last :: List.replicate q' last).sum = last * (q' + 1) := by
    rw [← hrep]; simp [Nat.mul_comm]
  refine ⟨hq1, p5, p6, p3, p4, ht, ?_, p2, ?_, ?_, ?_, ?_, ?_, ?_⟩
  · rw [ht, p1]
  · rw [indA_stop (c - 1) (by (first | lia | omega)), hq']
  · rw [hrep, indA_one, (indA_runs last (List.replicate q' last) (by decide : 0 < 1)).1, hrs]
    simp
  · rw [hrep, (indA_runs last (List.replicate q' last) (by (first | lia | omega) : 0 < last)).2]
    have hd : (last :: List.replicate q' last).dropLast = List.replicate q' last := by
      rw [← hrep, List.dropLast_replicate]; rfl
    have hg : (last :: List.replicate q' last).getLastD 0 = last := by
      rw [← hrep, List.getLastD_eq_getLast?, List.getLast?_replicate]; simp
    rw [hd, hg, List.map_replicate, Nat.div_self (by (first | lia | omega))]
    simp only [List.sum_replicate_nat, List.length_replicate, Nat.mul_one]
    rw [hlq, Nat.mul_add]; (first | lia | omega)
  · rw [indA_one, (indA_runs c hand (by decide : 0 < 1)).1, List.sum_cons, p3]
    exact ⟨by (first | lia | omega), rfl⟩
  · rw [(indA_runs c hand (by (first | lia | omega) : 0 < last)).2]
    cases hhand : hand with
    | nil =>
      rw [hhand] at p3
      simp at p3
      simp
      (first | lia | omega)
    | cons h1 hr =>
      have hne : ¬ (h1 :: hr = []) := by simp
      rw [if_neg hne]
      have hz : ((h1 :: hr).dropLast.map (· / last)).sum = 0 := by
        have : ∀ l : List Nat, (∀ x ∈ l, x < last) → (l.map (· / last)).sum = 0 := by
          intro l
          induction l with
          | nil => intro _; rfl
          | cons x l ih =>
            intro h
            rw [List.map_cons, List.sum_cons, ih fun y hy => h y (.tail _ hy), Nat.div_eq_of_lt (h x (.head _))]
        exact this _ fun x hx => p4 x (by rw [hhand]; exact (List.dropLast_sublist _).subset hx)
      have hg : (c :: h1 :: hr).getLastD 0 = (h1 :: hr).getLastD 0 := by simp
      have hd : (c :: h1 :: hr).dropLast = c :: (h1 :: hr).dropLast := rfl
      have hcq : c / last = q' := by
        have hx := hpos h1 (by rw [hhand]; exact .head _)
        rw [hhand, List.sum_cons] at p3
        have : c < last * q' + last := by (first | lia | omega)
        have h2 : last * q' ≤ c := by (first | lia | omega)
        have h3 : c = last * q' + (c - last * q') := by (first | lia | omega)
        rw [h3, Nat.mul_add_div (by (first | lia | omega))]
        rw [Nat.div_eq_of_lt (by (first | lia | omega))]; rfl
      rw [hg, hd, List.map_cons, List.sum_cons, hz, hcq]
      simp only [List.length_cons, Nat.add_sub_cancel, Nat.add_zero]
      rw [hlq, Nat.mul_add, Nat.mul_add]
      (first | lia | omega)
  · have : ∀ l : List Nat, (∀ x ∈ l, 1 ≤ x) → l.length ≤ l.sum := by
      intro l
      induction l with
      | nil => intro _; simp
      | cons x l ih =>
        intro h
        have h1 := ih fun y hy => h y (.tail _ hy)
        have h2 := h x (.head _)
        rw [List.length_cons, List.sum_cons]; (first | lia | omega)
    have := this hand hpos
    (first | lia | omega)
theorem qh_pos {cs : List Nat} (h : ∀ c ∈ cs, 1 ≤ c) : ∀ (f hi o : Nat), ∀ x ∈ qhF f cs hi o, 1 ≤ x
  | 0, _, _ => by intro x hx; cases hx
  | f + 1, hi, o => by
    intro x hx
    unfold qhF at hx
    split at hx
    · cases hx
    · dsimp only at hx
      rcases List.mem_append.mp hx with hx | hx
      · rw [List.eq_of_mem_replicate hx, List.getD_eq_getElem?_getD]
        cases q : cs[ub cs hi o - 1]? with
        | none => exact Nat.le_refl _
        | some y => exact h y (List.mem_of_getElem? q)
      · exact qh_pos h f _ _ x hx
theorem div_facts {c last q : Nat} {u : Int} (hu : u ≠ 0) (h1 : c ≤ last * q) (h2 : last * q < c + last) :
    (-(c : Int) * u).fdiv ((last : Int) * u) = -(q : Int) ∧ (-(c : Int) * u).fmod ((last : Int) * u) = ((last * q - c : Nat) : Int) * u := by
  have pos : ∀ v : Int, 0 < v → (-(c : Int) * v).fdiv ((last : Int) * v) = -(q : Int) ∧ (-(c : Int) * v).fmod ((last : Int) * v) = ((last * q - c : Nat) : Int) * v := by
    intro v hv
    have hl : 0 < last := by
      rcases Nat.eq_zero_or_pos last with e | e
      · subst e; simp at h1 h2; (first | lia | omega)
      · exact e
    have hb : 0 < (last : Int) * v := Int.mul_pos (by (first | lia | omega)) hv
    rw [fdiv_pos hb, fmod_pos hb]
    have e : ((last * q - c : Nat) : Int) = (last : Int) * q - c := by
      rw [Int.natCast_sub h1]; push_cast; rfl
    refine (Int.ediv_emod_unique hb).mpr ⟨?_, Int.mul_nonneg (Int.natCast_nonneg _) (by (first | lia | omega)), ?_⟩
    · rw [e, Int.sub_mul, Int.mul_neg, Int.neg_mul, Int.mul_right_comm]; (first | lia | omega)
    · exact Int.mul_lt_mul_of_pos_right (by (first | lia | omega)) hv
  by_cases hu1 : 0 < u
  · exact pos u hu1
  · obtain ⟨v, rfl⟩ : ∃ v : Int, u = -v := ⟨-u, by (first | lia | omega)⟩
    obtain ⟨p1, p2⟩ := pos v (by (first | lia | omega))
    rw [Int.mul_neg, Int.mul_neg, Int.mul_neg, Int.neg_fdiv_neg, Int.neg_fmod_neg, p1, p2]
    exact ⟨rfl, rfl⟩
noncomputable def wd : List Nat → List Nat
  | [] => [46]
  | c :: _ => List.replicate c 32
noncomputable def pbs : List Nat → List Nat → List (List Nat)
  | [], rf => rf.map fun n => List.replicate n 32
  | _ :: r, rf => (r.map fun n => List.replicate n 32) ++ [[46]] ++ rf.map fun n => List.replicate n 32
theorem pbs_eq (rest rf : List Nat) : (rest.map fun n => List.replicate n 32) ++ [[46]] ++ (rf.map fun n => List.replicate n 32) = wd rest :: pbs rest rf := by
  cases rest <;> rfl
structure Purse (cs todo rf : List Nat) : Prop where
  h0 : cs.getD 0 0 = 1
  hp : ∀ c ∈ cs, 1 ≤ c ∧ c ≤ 11
  hs : cs.Pairwise fun a b => a ≤ b
  hz : cs.length + todo.length ≤ 5
  hr : rf.length + todo.length ≤ 4
  hch : ∃ lo, chk todo.length cs lo = true ∧ ∀ c ∈ todo, lo ≤ c ∧ 2 ≤ c ∧ c ≤ 11
  ht : todo.Pairwise fun a b => a ≤ b
  hl : ∀ c ∈ todo, cs.getLastD 1 ≤ c
theorem Purse.one {cs todo rf : List Nat} (P : Purse cs todo rf) : 1 ∈ cs := by
  have := P.h0
  cases cs with
  | nil => cases this
  | cons x cs => exact this ▸ .head _
theorem Purse.last {cs todo rf : List Nat} (P : Purse cs todo rf) : 1 ≤ cs.getLastD 1 ∧ cs.getLastD 1 ≤ 11 := by
  rw [List.getLastD_eq_getLast?]
  cases q : cs.getLast? with
  | none => exact ⟨Nat.le_refl _, by decide⟩
  | some x => exact P.hp x (List.mem_of_getLast? q)
theorem Purse.point {cs rest rf : List Nat} {c : Nat} (P : Purse cs (c :: rest) rf) : Mine.point cs c = true := by
  obtain ⟨lo, h1, h2⟩ := P.hch
  have h3 := h2 c (.head _)
  exact (chk_get (f := rest.length) h1 h3.1 (by (first | lia | omega))).1
theorem Purse.take {cs rest rf : List Nat} {c : Nat} (P : Purse cs (c :: rest) rf) (ht : takes cs c = true) : Purse (cs ++ [c]) rest rf := by
  obtain ⟨lo, h1, h2⟩ := P.hch
  have h3 := h2 c (.head _)
  have hz := P.hz
  have hr := P.hr
  rw [List.length_cons] at hz hr
  obtain ⟨t1, t2⟩ := List.pairwise_cons.mp P.ht
  have hne : cs ≠ [] := by intro e; have := P.h0; rw [e] at this; cases this
  refine ⟨?_, ?_, ?_, ?_, by (first | lia | omega), ⟨c, (chk_get (f := rest.length) h1 h3.1 (by (first | lia | omega))).2.1 ht, fun x hx => ⟨t1 x hx, (h2 x (.tail _ hx)).2⟩⟩, t2, ?_⟩
  · have := P.h0
    cases cs with
    | nil => exact absurd rfl hne
    | cons x cs => exact this
  · intro x hx
    rcases List.mem_append.mp hx with hx | hx
    · exact P.hp x hx
    · rw [List.mem_singleton.mp hx]; (first | lia | omega)
  · rw [List.pairwise_append]
    refine ⟨P.hs, List.pairwise_singleton _ _, fun a ha b hb => ?_⟩
    rw [List.mem_singleton.mp hb]
    have hl := P.hl c (.head _)
    have hle : a ≤ cs.getLastD 1 := by
      rw [List.getLastD_eq_getLast?, List.getLast?_eq_some_getLast hne]
      show a ≤ cs.getLast hne
      obtain ⟨i, hi, rfl⟩ := List.mem_iff_getElem.mp ha
      rw [List.getLast_eq_getElem]
      rcases Nat.lt_or_ge i (cs.length - 1) with q | q
      · exact List.pairwise_iff_getElem.mp P.hs i (cs.length - 1) hi (by (first | lia | omega)) q
      · have : i = cs.length - 1 := by (first | lia | omega)
        subst this; exact Nat.le_refl _
    (first | lia | omega)
  · rw [List.length_append, List.length_singleton]; (first | lia | omega)
  · intro x hx
    rw [List.getLastD_concat]
    exact t1 x hx
theorem Purse.pass {cs rest rf : List Nat} {c : Nat} (P : Purse cs (c :: rest) rf) (ht : takes cs c = false) : Purse cs rest (rf ++ [c]) := by
  obtain ⟨lo, h1, h2⟩ := P.hch
  have h3 := h2 c (.head _)
  have hz := P.hz
  have hr := P.hr
  rw [List.length_cons] at hz hr
  obtain ⟨t1, t2⟩ := List.pairwise_cons.mp P.ht
  exact ⟨P.h0, P.hp, P.hs, by (first | lia | omega), by rw [List.length_append, List.length_singleton]; (first | lia | omega), ⟨c, (chk_get (f := rest.length) h1 h3.1 (by (first | lia | omega))).2.2 ht, fun x hx => ⟨t1 x hx, (h2 x (.tail _ hx)).2⟩⟩, t2, fun x hx => P.hl x (.tail _ hx)⟩
theorem Purse.turn {cs rest rf : List Nat} {c last q : Nat} (P : Purse cs (c :: rest) rf) (hl : last = cs.getLastD 1) (hq : q = (c - 1) / last + 1) : Turn cs c last q (qh cs (last * q - c)) := by
  have h2 := (P.hch.choose_spec).2 c (.head _)
  exact turn_of hl hq P.point (by rw [hl]; exact P.last.1) (by (first | lia | omega)) (fun x hx => qh_pos (fun c hc => (P.hp c hc).1) _ _ _ x hx)
theorem stop_lt {c last q : Nat} (hl : 1 ≤ last) (hc : 1 ≤ c) (hq : q = (c - 1) / last + 1) : last * q < c + last := by
  have h1 := Nat.div_add_mod (c - 1) last
  rw [hq, Nat.mul_add, Nat.mul_one]
  (first | lia | omega)
set_option hygiene false
local macro_rules | `(tactic| walk_at "sw") => `(tactic| first | exact sw_tail _ _ | (apply Sw.there; walk_at "sw"))
set_option hygiene true
theorem St.pull {hb h : Heap} {L : Addr} {m : Str → Option Value} {own own' : List (Addr × Cel)} (S : St hb h L m own) {a : Addr} {c : Cel} (U : Gone a c own own') : St hb h L m ((a, c) :: own') := by
  refine S.perm ?_
  clear S
  induction U with
  | head => exact .refl _
  | tail U ih => exact (List.Perm.cons _ ih).trans (List.Perm.swap ..)
theorem LxO.mid (X : Lx) (pre rest : List (Addr × Cel)) : LxO X (fun a p f => pre ++ (X.seg a p f ++ rest)) := by
  induction pre with
  | nil => exact LxO.seg X rest
  | cons q pre ih => exact ih.up q
theorem stFirst {hb h : Heap} {L : Addr} {m : Str → Option Value} {o1 o2 o3 : Obj} (F : Fr hb L h m) (N : News hb L h [(L + 1 + 1 + 1, o3), (L + 1 + 1, o2), (L + 1, o1), (222, tabObj #[]), (196, tabObj #[]), (110, tabObj #[]), (103, tabObj #[])])
    (h1 : o1.data = .cell none) (h2 : o2.data = .cell none) (h3 : o3.data = .cell none) (hl : 222 < L ∧ 196 < L ∧ 110 < L ∧ 103 < L) :
    St hb h L m ([(L + 1 + 1 + 1, .cel none), (L + 1 + 1, .cel none), (L + 1, .cel none), (196, .obj (tabObj #[]))] ++ [(222, .obj (tabObj #[])), (110, .obj (tabObj #[])), (103, .obj (tabObj #[]))]) := by
  refine ⟨F.keep, F.ns, F.above, fun p hp => ?_, ?_⟩
  · have n1 := N _ (.head _)
    have n2 := N _ (.tail _ (.head _))
    have n3 := N _ (.tail _ (.tail _ (.head _)))
    have n4 := N _ (.tail _ (.tail _ (.tail _ (.head _))))
    have n5 := N _ (.tail _ (.tail _ (.tail _ (.tail _ (.head _)))))
    have n6 := N _ (.tail _ (.tail _ (.tail _ (.tail _ (.tail _ (.head _))))))
    have n7 := N _ (.tail _ (.tail _ (.tail _ (.tail _ (.tail _ (.tail _ (.head _)))))))
    simp only [List.cons_append, List.nil_append, List.mem_cons, List.not_mem_nil, or_false] at hp
    rcases hp with rfl | rfl | rfl | rfl | rfl | rfl | rfl
    · exact ⟨⟨_, n1.1, h3⟩, n1.2.2⟩
    · exact ⟨⟨_, n2.1, h2⟩, n2.2.2⟩
    · exact ⟨⟨_, n3.1, h1⟩, n3.2.2⟩
    · exact ⟨n5.1, n5.2.2⟩
    · exact ⟨n4.1, n4.2.2⟩
    · exact ⟨n6.1, n6.2.2⟩
    · exact ⟨n7.1, n7.2.2⟩
  · have aux : ∀ n : Nat, 222 < n ∧ 196 < n ∧ 110 < n ∧ 103 < n → List.Nodup [n, n + 1 + 1 + 1, n + 1 + 1, n + 1, 196, 222, 110, 103] := by
      rintro n ⟨a, b, c, d⟩
      simp only [List.nodup_cons, List.mem_cons, List.not_mem_nil, or_false, not_or, not_false_eq_true, List.nodup_nil, and_true]
      omega
    exact aux L hl
theorem rep_ne {c : Nat} (h : 2 ≤ c) : (List.replicate c 32 = [46]) = False := by
  obtain ⟨k, rfl⟩ : ∃ k, c = k + 1 := ⟨c - 1, by omega⟩
  simp [List.replicate_succ]
theorem old_len {q last : Nat} (h0 : 1 ≤ q) (h1 : q * last ≤ 22) (h2 : q ≤ 22) : (runs (List.replicate q last)).length ≤ 100 := by
  obtain ⟨q', rfl⟩ : ∃ q', q = q' + 1 := ⟨q - 1, by omega⟩
  rw [List.replicate_succ, runs_len, ← List.replicate_succ]
  simp
  omega
theorem nil_of_nil {α : Type} {a : List Nat} {b : List α} (h : b.length = a.length) (hb : ∀ y z, b = y :: z → False) : a = [] := by
  cases b with
  | nil => exact List.eq_nil_of_length_eq_zero h.symm
  | cons y z => exact (hb y z rfl).elim
theorem ite_pair {α : Type} {M : Model} {A : Around} {E : Value → Shared → Prop} {c : Prop} [Decidable c] {x y : Sem α} {Q Q' : α → Shared → Prop} {s : Shared} (h1 : c → wpAny M A x Q' E s) (h2 : ¬ c → wpAny M A y Q' E s) (hq : ∀ v s, Q' v s → Q v s) : if c then wpAny M A x Q E s else wpAny M A y Q E s :=
  if_s (fun h => wpAny_mono (h1 h) hq fun _ _ e => e) (fun h => wpAny_mono (h2 h) hq fun _ _ e => e)
theorem unit_bits {k r : Nat} (hk : k < 4200) (hr : r < 3) {s : Int} (hs : s = 1 ∨ s = -1) : s * ((2 : Int) ^ k + (r : Int)) ≠ 0 ∧ Builtin.Int.intBits (s * ((2 : Int) ^ k + (r : Int))) ≤ 4210 := by
  have e : (2 : Int) ^ k + (r : Int) = ((2 ^ k + r : Nat) : Int) := by push_cast; rfl
  have h1 : 0 < 2 ^ k := Nat.two_pow_pos k
  have h2 : 2 ^ k ≤ 2 ^ 4200 := Nat.pow_le_pow_right (by decide) (by omega)
  have hab : (s * ((2 : Int) ^ k + (r : Int))).natAbs = 2 ^ k + r := by
    rw [e, Int.natAbs_mul, Int.natAbs_natCast]
    rcases hs with rfl | rfl <;> simp
  refine ⟨fun q => ?_, ?_⟩
  · rw [q] at hab
    simp only [Int.natAbs_zero] at hab
    omega
  · rw [PySem.intBits_le_iff, hab]
    obtain ⟨z, hz⟩ : ∃ z, z = 2 ^ 4200 := ⟨_, rfl⟩
    have h3 : 2 ^ 4210 = z * 1024 := by rw [hz, show (4210 : Nat) = 4200 + 10 from rfl, Nat.pow_add]
    rw [← hz] at h2
    rw [h3]
    omega
theorem halves_sorted {ns : List Nat} {dv : List Value} (hn : ns.length = 4) (hb : ∀ n ∈ ns, n ≤ 11) (hdv : dv.map sval = (ns.map fun n => List.replicate n 32).map some) :
    ((runT (fun i j => decide ((ns.map fun n => ((n / 2 : Nat) : Int)).getD i 0 < (ns.map fun n => ((n / 2 : Nat) : Int)).getD j 0)) (kas_sort 4)).toList.map fun i => dv.getD i Value.none).map sval = ((foldR (fun n => n / 2) ns).map fun n => List.replicate n 32).map some := by
  match ns, hn with
  | [a, b, c, d], _ =>
    have ha := hb a (by simp)
    have hb' := hb b (by simp)
    have hc := hb c (by simp)
    have hd := hb d (by simp)
    have e : (fun i j => decide (([a, b, c, d].map fun n => ((n / 2 : Nat) : Int)).getD i 0 < ([a, b, c, d].map fun n => ((n / 2 : Nat) : Int)).getD j 0)) = fun i j => decide ([a / 2, b / 2, c / 2, d / 2].getD i 0 < [a / 2, b / 2, c / 2, d / 2].getD j 0) := by
      have e1 : ∀ i, ([a, b, c, d].map fun n => ((n / 2 : Nat) : Int)).getD i 0 = (([a / 2, b / 2, c / 2, d / 2].getD i 0 : Nat) : Int) := fun i => by
        match i with
        | 0 => rfl
        | 1 => rfl
        | 2 => rfl
        | 3 => rfl
        | i + 4 => simp
      funext i j
      rw [e1, e1]
      exact decide_eq_decide.mpr Int.ofNat_lt
    rw [e]
    show ((ord4 [a / 2, b / 2, c / 2, d / 2]).map fun i => dv.getD i Value.none).map sval = _
    rw [← halves_ord ha hb' hc hd, List.map_map, List.map_map, List.map_map]
    have hlt : ∀ i ∈ ord4 [a / 2, b / 2, c / 2, d / 2], i < 4 := by
      have h := ord4_all ⟨a / 2, by omega⟩ ⟨b / 2, by omega⟩ ⟨c / 2, by omega⟩ ⟨d / 2, by omega⟩
      dsimp only at h
      intro i hi
      rw [h] at hi
      have := (foldR_perm (fun i => [a / 2, b / 2, c / 2, d / 2].getD i 0) [0, 1, 2, 3] []).mem_iff.mp hi
      simp at this
      omega
    refine List.map_congr_left fun i hi => ?_
    have hi4 := hlt i hi
    obtain ⟨t, ht⟩ := map_sval hdv i (List.replicate ([a, b, c, d].getD i 0) 32) (by
      match i, hi4 with
      | 0, _ => rfl
      | 1, _ => rfl
      | 2, _ => rfl
      | 3, _ => rfl)
    show sval (dv.getD i Value.none) = some (List.replicate ([a, b, c, d].getD i 0) 32)
    rw [List.getD_eq_getElem?_getD, ht]
    exact sval_st _ t
theorem shaped_two {a b : List (List Nat)} (ha : ∀ k ∈ a, ∀ c ∈ k, c < 128) (hb : ∀ k ∈ b, ∀ c ∈ k, c < 128) : PySem.SeqAt.shaped (.list [.list (a.map fun k => .str (st k)), .list (b.map fun k => .str (st k))]) = true := by
  unfold PySem.SeqAt.shaped
  show ((PyData.canLayAll0 (a.map fun k => .str (st k)) && (PyData.canLayAll0 (b.map fun k => .str (st k)) && true)) && decide (max (PyData.depthAll (a.map fun k => .str (st k)) + 1) (max (PyData.depthAll (b.map fun k => .str (st k)) + 1) 0) + 1 ≤ 64)) = true
  rw [layAll_strs a ha, layAll_strs b hb, depthAll_strs, depthAll_strs]
  rfl
theorem shaped_one {a : List (List Nat)} (ha : ∀ k ∈ a, ∀ c ∈ k, c < 128) : PySem.SeqAt.shaped (.list (a.map fun k => .str (st k))) = true := by
  unfold PySem.SeqAt.shaped
  show (PyData.canLayAll0 (a.map fun k => .str (st k)) && decide (PyData.depthAll (a.map fun k => .str (st k)) + 1 ≤ 64)) = true
  rw [layAll_strs a ha, depthAll_strs]
  rfl
theorem shaped_end (k : Int) : PySem.SeqAt.shaped (.list [.str (st [101, 110, 100]), .str (st []), .int k]) = true := by
  unfold PySem.SeqAt.shaped
  show ((PyData.strOk (st [101, 110, 100]) && (PyData.strOk (st []) && (true && true))) && decide (max 0 (max 0 (max 0 0)) + 1 ≤ 64)) = true
  rw [strOk_words (by decide), strOk_words (by decide)]
  rfl
theorem dec_cast {a b : List Nat} : decide ((a.map fun x => ((x : Nat) : Int)) = (b.map fun x => ((x : Nat) : Int))) = (a == b) := by
  by_cases q : a = b
  · subst q; simp
  · have : ¬ ((a.map fun x => ((x : Nat) : Int)) = (b.map fun x => ((x : Nat) : Int))) := fun e => q ((List.map_inj_right (f := fun x => ((x : Nat) : Int)) (fun x y h => Int.ofNat_inj.mp h)).mp e)
    rw [decide_eq_false this]
    simp [q]
theorem words_small (l : List Nat) : ∀ k ∈ l.map (fun n => List.replicate n 32), ∀ c ∈ k, c < 128 := by
  intro k hk c hc
  obtain ⟨n, _, rfl⟩ := List.mem_map.mp hk
  rw [List.eq_of_mem_replicate hc]; decide
theorem TabIn.grown {P : Addr} {l c : Int} {qual : Str} {bs : List (Addr × Cel)} {h : Heap} (T : TabIn P l c qual bs) (hm : ∀ x, (P, Cel.obj x) ∈ bs → h.get? P = some x) : GrownAt P h := by
  rcases T with h1 | ⟨_, _, _, _, h1, _⟩
  · exact ⟨_, hm _ h1⟩
  · exact ⟨_, hm _ h1⟩
theorem law_ends {cl : Str → Option Addr} {mean : ExcName → Option Value} {x : PyData} {hb h : Heap} {L : Addr} {m : Str → Option Value} {own bs : List (Addr × Cel)} {g : Array GenState} {d : Drawn} {tk tk' : Nat} {os : OsState} {ps : Array Value}
    (S : St hb h L m own) (hg : g = #[]) (T : Tb bs) (h1 : (196, Cel.obj (tabObj ps)) ∈ own) (hs : ∀ y, y ∈ bs → y ∈ own) :
    GoodW PySem.Challenge.rw_tv0050_01.row.claim cl mean [ofPy x] ⟨hb, g, d, tk, os⟩ (Except.ok (Flow.ret (Value.bool true))) ⟨h, g, d, tk', os⟩ ∧ GrownAll [(226, 222), (200, 196), (114, 110), (107, 103)] h := by
  refine ⟨⟨.inl ⟨.bool true, .bool true, [], rfl, fun _ => rfl, .bool _, by kernel_rfl, fun _ => ⟨List.nodup_nil, fun a h => nomatch h⟩⟩, fun b o e => S.keep b o e, rfl, hg⟩, ?_, ?_, ?_, ?_, trivial⟩
  · exact T.k.grown fun x hx => S.mem (hs _ hx)
  · exact ⟨_, S.mem h1⟩
  · exact T.j.grown fun x hx => S.mem (hs _ hx)
  · exact T.i.grown fun x hx => S.mem (hs _ hx)
theorem lawHolds : PySem.Challenge.rw_tv0050_01.Holds := by
  refine Mine.hd (by
    k_go0
    rename_i s0 s1 mg mb G Y fa fo pm cd doc ho hcd hg V XX YY TT UU WW zs hs0 hlay0 hL0 hr0 hl20 ad1 ad2 ls vals ad3 hLs ra w1 r0 hI hrr hc1 hc2 hD h1 tk1 o3 o2 o1 hd3 hd2 hd1 X0 X' T' K' F' q1 q2 q3 N' l0
    clear w1 r0 ra hLs hrr hc2 hD K'
    have B := mkBs X' T' ⟨q1, q2, q3, codeHd⟩
    have S := stFirst F' N' hd1 hd2 hd3 l0
    clear F' N' T' X' q1 q2 q3 codeHd hd1 hd2 hd3 X0
    generalize ghostOf _ _ = hb at *
    generalize s1.heap.objs.size = L at *
    have S : St hb h1 L (fun y => if y = "script" then some (.ref ls) else none) ((L + 1 + 1 + 1, .cel none) :: (L + 1 + 1, .cel none) :: (L + 1, .cel none) :: (196, .obj (tabObj #[])) :: [(222, .obj (tabObj #[])), (110, .obj (tabObj #[])), (103, .obj (tabObj #[]))]) := S
    have hlen : zs.length ≤ 63 := by omega
    clear hc1 l0 ho hcd V XX YY TT UU WW hs0 hlay0 hL0 hr0 hl20 Y G hT8
    dsimp only
    generalize hAe : callerA.deeper _ = A
    have hAd : A.depth ≤ 310 := by rw [← hAe]; exact Nat.le_of_ble_eq_true rfl
    have hA : A.handled = none := by rw [← hAe]; rfl
    have hAu : A.units + 64 < cLine := by rw [← hAe]; exact Nat.le_of_ble_eq_true rfl
    have hrl : recursionLimit = 1000 := rfl
    clear hAe
    walk_at "ww"
    refine heaps_spec B S lifted hI hlen (by walk_at "mem") (bs := [3, 31, 25, 12, 123]) rfl rfl (by decide) (by omega) hA ?_
    intro h tk lh hv hs hs5 hsb hhv S
    have hvl : hv.length = 5 := by rw [nmap_len hhv, hs5]
    walk_at "ww"
    refine ListComp_ (by rfl) (by decide +kernel) ?_
    walk_at "ww"
    refine iterG S (by walk_at "mem") (by omega) (by omega) ?_
    intro h I S
    obtain ⟨tab, htab⟩ : ∃ tab : List (Addr × Cel), tab = (196, .obj (tabObj #[])) :: [(222, .obj (tabObj #[])), (110, .obj (tabObj #[])), (103, .obj (tabObj #[]))] := ⟨_, rfl⟩
    rw [← htab] at S
    have hsbk : ∀ k, hs.getD k 0 ≤ 1000000000 := fun k => by
      rw [List.getD_eq_getElem?_getD]
      cases q : hs[k]? with
      | none => exact Nat.zero_le _
      | some x => exact hsb x (List.mem_of_getElem? q)
    refine compGo (itrG (a := 0) (n := 4)) (fun i acc ow => ow = (lh, Cel.lst hv) :: (L + 1 + 1 + 1, Cel.cel none) :: (L + 1 + 1, Cel.cel none) :: (L + 1, Cel.cel (some (.ref lh))) :: tab ∧ acc.map sval = ((List.range i).map fun k => List.replicate (2 + hs.getD k 0 % 10) 32).map some)
      (St.rg (S.sub (own' := (I, Cel.rgi _ _) :: (lh, Cel.lst hv) :: (L + 1 + 1 + 1, Cel.cel none) :: (L + 1 + 1, Cel.cel none) :: (L + 1, Cel.cel (some (.ref lh))) :: tab) (by walk_at "sl")) (by rfl)) hA (by omega) (fun _ _ _ _ => trivial) ⟨rfl, rfl⟩ ?_ ?_
    · rintro C D i v acc ow h tk mc' hi' ⟨tv, rfl⟩ ⟨rfl, hac⟩ hal' S
      rw [show (0 : Int) + (i : Int) = i by omega] at S
      obtain ⟨tg, hget⟩ := nmap_get hhv (i := i) (by omega)
      refine tst0 ?_
      walk_at "ww"
      refine subL S (by walk_at "mem") (by omega) (by omega) (by rw [Int.toNat_natCast]; exact hget) ?_
      walk_at "ww"
      rw [show (2 + ((hs.getD i 0 : Nat) : Int) % 10).toNat = 2 + hs.getD i 0 % 10 by omega]
      refine exI4 _ _ _ _ ⟨rfl, S, rfl, ?_⟩
      rw [List.map_append, hac, List.range_succ, List.map_append, List.map_append]
      rfl
    rintro h tk ld dv ow S ⟨rfl, hdv⟩
    walk_at "ww"
    refine ListComp_ (by rfl) (by decide +kernel) ?_
    walk_at "ww"
    refine iterG S (by walk_at "mem") (by omega) (by omega) ?_
    intro h I S
    have hdl : dv.length = 4 := by rw [map_sval_len hdv]; simp
    refine compGo (itrG (a := 0) (n := 4)) (fun i acc ow => ow = (ld, Cel.lst dv) :: (lh, Cel.lst hv) :: (L + 1 + 1 + 1, Cel.cel none) :: (L + 1 + 1, Cel.cel (some (.ref ld))) :: (L + 1, Cel.cel (some (.ref lh))) :: tab ∧ acc.map sval = ((List.range i).map fun k => wrF (2 + hs.getD k 0 % 10) (hs.getD k 0 / 10)).map some)
      (St.rg (S.sub (own' := (I, Cel.rgi _ _) :: (ld, Cel.lst dv) :: (lh, Cel.lst hv) :: (L + 1 + 1 + 1, Cel.cel none) :: (L + 1 + 1, Cel.cel (some (.ref ld))) :: (L + 1, Cel.cel (some (.ref lh))) :: tab) (by walk_at "sl")) (by rfl)) hA (by omega) (fun _ _ _ _ => trivial) ⟨rfl, rfl⟩ ?_ ?_
    · rintro C D i v acc ow h tk mc' hi' ⟨tv, rfl⟩ ⟨rfl, hac⟩ hal' S
      rw [show (0 : Int) + (i : Int) = i by omega] at S
      obtain ⟨tg, hget⟩ := nmap_get hhv (i := i) (by omega)
      obtain ⟨tw, hgetw⟩ := map_sval hdv i (List.replicate (2 + hs.getD i 0 % 10) 32) (by rw [List.getElem?_map, List.getElem?_range (by omega)]; rfl)
      refine tst0 ?_
      walk_at "ww"
      refine subL S (by walk_at "mem") (by omega) (by omega) (by rw [Int.toNat_natCast]; exact hgetw) ?_
      walk_at "ww"
      refine subL S (by walk_at "mem") (by omega) (by omega) (by rw [Int.toNat_natCast]; exact hget) ?_
      walk_at "ww"
      rw [show ((hs.getD i 0 : Nat) : Int) / 10 = ((hs.getD i 0 / 10 : Nat) : Int) by omega]
      refine written_spec B S (by omega) (by omega) hA ?_
      intro h tk t S
      refine exI4 _ _ _ _ ⟨rfl, S, rfl, ?_⟩
      rw [List.map_append, hac, List.range_succ, List.map_append, List.map_append]
      rfl
    rintro h tk lt tv ow S ⟨rfl, htv⟩
    walk_at "ww"
    have hsum : (((List.range 4).map fun k => wrF (2 + hs.getD k 0 % 10) (hs.getD k 0 / 10)).map (·.length)).sum ≤ 200 := by
      have h0 := wrF_len (2 + hs.getD 0 0 % 10) (hs.getD 0 0 / 10)
      have h1 := wrF_len (2 + hs.getD 1 0 % 10) (hs.getD 1 0 / 10)
      have h2 := wrF_len (2 + hs.getD 2 0 % 10) (hs.getD 2 0 / 10)
      have h3 := wrF_len (2 + hs.getD 3 0 % 10) (hs.getD 3 0 / 10)
      show (wrF (2 + hs.getD 0 0 % 10) (hs.getD 0 0 / 10)).length + ((wrF (2 + hs.getD 1 0 % 10) (hs.getD 1 0 / 10)).length + ((wrF (2 + hs.getD 2 0 % 10) (hs.getD 2 0 / 10)).length + ((wrF (2 + hs.getD 3 0 % 10) (hs.getD 3 0 / 10)).length + 0))) ≤ 200
      omega
    refine joinS S (by walk_at "mem") htv (by simp only [List.length_nil, Nat.mul_zero, Nat.add_zero]; omega) ?_
    intro t tk
    rw [glue_nil]
    obtain ⟨ws, hws⟩ : ∃ ws, ws = (List.range 4).map fun k => wrF (2 + hs.getD k 0 % 10) (hs.getD k 0 / 10) := ⟨_, rfl⟩
    rw [← hws] at hsum
    have hfl : ws.flatten.length ≤ 200 := by rw [List.length_flatten]; exact hsum
    rw [← hws]
    walk_at "ww"
    obtain ⟨tg4, hget4⟩ := nmap_get hhv (i := 4) (by omega)
    refine subL S (by walk_at "mem") (by omega) (by omega) hget4 ?_
    walk_at "ww"
    refine subL S (by walk_at "mem") (by omega) (by omega) hget4 ?_
    have hb4 := hsbk 4
    obtain ⟨h4, hh4⟩ : ∃ h4, h4 = hs.getD 4 0 := ⟨_, rfl⟩
    rw [← hh4] at S hget4 hb4 ⊢
    walk_at "ww"
    refine powI (by omega) (by omega) (by decide) ?_
    intro t tk
    have hk42 : (((h4 : Nat) : Int) / 2 % 4200).toNat < 4200 := by omega
    have hub := fun (s : Int) (hs : s = 1 ∨ s = -1) => unit_bits (k := (((h4 : Nat) : Int) / 2 % 4200).toNat) (r := h4 / 2 % 3) (s := s) hk42 (by omega) hs
    generalize (2 : Int) ^ (((h4 : Nat) : Int) / 2 % 4200).toNat = pw at hub ⊢
    walk_at "ww"
    refine mulI (mulSm (by omega)) ?_
    intro t tk
    obtain ⟨hu0, hub⟩ := hub (1 - ((h4 : Nat) : Int) % 2 * 2) (by omega)
    rw [show ((h4 / 2 % 3 : Nat) : Int) = ((h4 : Nat) : Int) / 2 % 3 by omega] at hu0 hub
    generalize (1 - ((h4 : Nat) : Int) % 2 * 2) * (pw + ((h4 : Nat) : Int) / 2 % 3) = u at hu0 hub ⊢
    walk_at "ww"
    rw [htab] at S
    have S := S.pull (a := 196) (by walk_at "gone")
    refine lexer_spec B S (by simp only [List.length_append, List.length_cons, List.length_nil]; omega) (by omega) hA ?_
    intro h tk X lv pv fs ps Ok H S
    obtain rfl : pv = [] := List.eq_nil_of_length_eq_zero (by simpa using congrArg List.length H.p)
    obtain ⟨bs, hbs⟩ : ∃ bs : List (Addr × Cel), bs = [(222, .obj (tabObj #[])), (110, .obj (tabObj #[])), (103, .obj (tabObj #[]))] := ⟨_, rfl⟩
    have Tb0 : Tb bs := by rw [hbs]; exact ⟨.inl (by walk_at "mem"), .inl (by walk_at "mem"), .inl (by walk_at "mem")⟩
    rw [← hbs] at S
    have S : St hb h L _ ([_, _, _, _, _, _, _] ++ (X.seg lv [] fs ++ bs)) := S.perm (List.perm_append_comm_assoc (X.seg lv [] fs) [_, _, _, _, _, _, _] bs)
    have S : St hb h L _ (_ :: _ :: _ :: _ :: _ :: _ :: _ :: (X.seg lv [] fs ++ bs)) := S
    clear hbs htab
    walk_at "ww"
    have hX : ∃ (mm : Str → Option Value) (lsh lhs : Addr) (tu tt : Tok), mm "shelf" = some (.ref lsh) ∧ mm "halves" = some (.ref lhs) ∧ mm "unit" = some (.int u tu) ∧ mm "text" = some (.str (st (ws.flatten ++ [101, 110, 100])) tt) ∧
        St hb h L mm ((lhs, Cel.lst []) :: (lsh, Cel.lst []) :: (196, Cel.obj (tabObj ps)) :: (ld, Cel.lst dv) :: (lh, Cel.lst hv) :: (L + 1 + 1 + 1, Cel.cel (some (.ref X.x))) :: (L + 1 + 1, Cel.cel (some (.ref ld))) :: (L + 1, Cel.cel (some (.ref lh))) :: (X.seg lv [] fs ++ bs)) := by
      refine ⟨_, ?v1, ?v2, ?v3, ?v4, ?va, ?vb, ?vc, ?vd, S.sub ?ve⟩
      case ve => walk_at "sl"
      case va => walk_at "lk"
      case vb => walk_at "lk"
      case vc => walk_at "lk"
      case vd => walk_at "lk"
    refine exE5 hX fun mm lsh lhs tu tt hX1 => anE5 hX1 fun msh mhs mun mtx S => ?_
    clear hX hX1
    refine iterL rfl S (by walk_at "mem") ?_
    intro h I S
    obtain ⟨ns, hns⟩ : ∃ ns, ns = (List.range 4).map (fun k => 2 + hs.getD k 0 % 10) := ⟨_, rfl⟩
    have hdv' : dv.map sval = (ns.map fun n => List.replicate n 32).map some := by rw [hdv, hns, List.map_map]; rfl
    have hn4 : ns.length = 4 := by rw [hns]; simp
    have hnb : ∀ n ∈ ns, 2 ≤ n ∧ n ≤ 11 := by
      intro n hn
      rw [hns] at hn
      obtain ⟨k, _, rfl⟩ := List.mem_map.mp hn
      omega
    have hnbk : ∀ k, k < 4 → 2 ≤ ns.getD k 0 ∧ ns.getD k 0 ≤ 11 := fun k hk => by
      rw [List.getD_eq_getElem?_getD, List.getElem?_eq_getElem (by omega)]
      exact hnb _ (List.getElem_mem _)
    have hlxi : ∀ i j, i < 4 → ∃ j', j' ≤ 1 ∧ lx (List.replicate j 10 ++ ((ws.drop i).flatten ++ [101, 110, 100])) = (List.replicate (ns.getD i 0) 32, List.replicate j' 10 ++ ((ws.drop (i + 1)).flatten ++ [101, 110, 100])) := by
      intro i j hi
      have hwi : ws.drop i = wrF (ns.getD i 0) (hs.getD i 0 / 10) :: ws.drop (i + 1) := by
        rw [hws, hns]
        match i, hi with
        | 0, _ => rfl
        | 1, _ => rfl
        | 2, _ => rfl
        | 3, _ => rfl
      obtain ⟨j', h1, h2⟩ := lx_written (n := ns.getD i 0) (by have := (hnbk i hi).1; omega) (hs.getD i 0 / 10) ((ws.drop (i + 1)).flatten ++ [101, 110, 100])
      exact ⟨j', h1, by rw [lx_nl, hwi, List.flatten_cons, List.append_assoc, h2]⟩
    refine forL_inv (x := "word") (l := ld) (vs := dv) (fun i m' own' => ∃ sv hv2 lv fs j, own' = (lhs, Cel.lst hv2) :: (lsh, Cel.lst sv) :: (196, Cel.obj (tabObj ps)) :: (ld, Cel.lst dv) :: (lh, Cel.lst hv) :: (L + 1 + 1 + 1, Cel.cel (some (.ref X.x))) :: (L + 1 + 1, Cel.cel (some (.ref ld))) :: (L + 1, Cel.cel (some (.ref lh))) :: (X.seg lv [] fs ++ bs) ∧
      m' "shelf" = some (.ref lsh) ∧ m' "halves" = some (.ref lhs) ∧ m' "unit" = some (.int u tu) ∧ m' "text" = some (.str (st (ws.flatten ++ [101, 110, 100])) tt) ∧ i ≤ 4 ∧
      LxSt X (List.replicate j 10 ++ ((ws.drop i).flatten ++ [101, 110, 100])) [] (1 + (ws.flatten ++ [101, 110, 100]).count 10) lv [] fs ∧
      sv.map sval = ((foldR (fun n => n) (ns.take i)).map fun n => List.replicate n 32).map some ∧ hv2.map sval = ((foldR (fun n => n / 2) (ns.take i)).map fun n => List.replicate n 32).map some)
      ?_ hA ?_ ?_ S ?_ (Nat.zero_le _)
    · rintro i m' own' ⟨sv, hv2, lv, fs, j, rfl, _⟩
      walk_at "mem"
    · clear S H
      intro i v h tk m' own' J RL hRL hv' hI0 S
      refine exE5 hI0 fun sv hv2 lv fs j hI1 => anE9 hI1 fun e1 msh mhs mun mtx hi5 H hsv hhv2 => ?_
      clear hI0 hI1
      subst e1
      have hi4 : i < 4 := by
        have := (List.getElem?_eq_some_iff.mp hv').1
        omega
      obtain ⟨tw, hgw⟩ := map_sval hdv' i (List.replicate (ns.getD i 0) 32) (by rw [List.getElem?_map, List.getD_eq_getElem?_getD, List.getElem?_eq_getElem (by omega)]; rfl)
      rw [hgw] at hv'
      cases hv'
      have mX : (X.x, Cel.ins 185 X.dx) ∈ X.seg lv [] fs ++ bs := List.mem_append_left _ (by unfold Lx.seg; simp)
      have mD : (X.dx, Cel.dct fs) ∈ X.seg lv [] fs ++ bs := List.mem_append_left _ (by unfold Lx.seg; simp)
      obtain ⟨hf51, hf52, hf53⟩ := H.f5
      walk_at "ww"
      refine mthA (f := 175) B S (by walk_at "mem") (by walk_at "mem") hf52 (by rfl) ?_
      walk_at "ww"
      refine get_spec B Ok (LxO.mid X [_, _, _, _, _, _, _, _, _] bs) H S (by omega) hA (fun a pb' h tk t pv e => nomatch e) ?_
      clear S mX mD
      intro h tk t lv' fs' _ H S
      obtain ⟨j', hj', hlx⟩ := hlxi i j hi4
      rw [hlx] at H ⊢
      dsimp only at H ⊢
      have S : St hb h L _ (_ :: _ :: _ :: _ :: _ :: _ :: _ :: _ :: _ :: (X.seg lv' [] fs' ++ bs)) := S
      walk_at "ww"
      have hti : ns.take (i + 1) = ns.take i ++ [ns.getD i 0] := by
        rw [List.take_add_one, List.getElem?_eq_getElem (by omega : i < ns.length), List.getD_eq_getElem?_getD, List.getElem?_eq_getElem (by omega : i < ns.length)]; rfl
      have hn11 := hnbk i hi4
      have hmemb : ∀ key : Nat → Nat, ∀ x ∈ foldR key (ns.take i), 2 ≤ x ∧ x ≤ 11 := fun key x hx => by
        have := (foldR_perm key (ns.take i) []).mem_iff.mp hx
        rw [List.append_nil] at this
        exact hnb x (List.mem_of_mem_take this)
      have hfl4 : ∀ key : Nat → Nat, (foldR key (ns.take i)).length ≤ 4 := fun key => by
        have := (foldR_perm key (ns.take i) []).length_eq
        rw [List.append_nil, List.length_take] at this
        show (List.foldl _ [] _).length ≤ 4
        omega
      have hkey : ∀ (key : Nat → Nat) (sv : List Value), sv.map sval = ((foldR key (ns.take i)).map fun n => List.replicate n 32).map some → sv.length = (foldR key (ns.take i)).length ∧ ∀ (k : Nat) (v : Value), sv[k]? = some v → ∃ t, v = .str (st (List.replicate ((foldR key (ns.take i)).getD k 0) 32)) t := fun key sv hsv => by
        have hl := map_sval_len hsv
        rw [List.length_map] at hl
        refine ⟨hl, fun k v hv => ?_⟩
        have hk := (List.getElem?_eq_some_iff.mp hv).1
        obtain ⟨t, ht⟩ := map_sval hsv k (List.replicate ((foldR key (ns.take i)).getD k 0) 32) (by rw [List.getElem?_map, List.getD_eq_getElem?_getD, List.getElem?_eq_getElem (by omega)]; rfl)
        rw [ht] at hv
        cases hv
        exact ⟨t, rfl⟩
      have hstep : ∀ (key : Nat → Nat) (sv : List Value) (r : Nat) (t : Tok), sv.map sval = ((foldR key (ns.take i)).map fun n => List.replicate n 32).map some → r ≤ (foldR key (ns.take i)).length →
          (∀ k, k < r → key ((foldR key (ns.take i)).getD k 0) ≤ key (ns.getD i 0)) → (∀ k, r ≤ k → k < (foldR key (ns.take i)).length → key (ns.getD i 0) < key ((foldR key (ns.take i)).getD k 0)) →
          (sv.take r ++ Value.str (st (List.replicate (ns.getD i 0) 32)) t :: sv.drop r).map sval = ((foldR key (ns.take (i + 1))).map fun n => List.replicate n 32).map some := fun key sv r t hsv hr h1 h2 => by
        have e : foldR key (ns.take (i + 1)) = insR key (ns.getD i 0) (foldR key (ns.take i)) := by
          rw [hti]; unfold foldR; rw [List.foldl_append]; rfl
        rw [e, ← insR_eq hr h1 h2, List.map_append, List.map_cons, List.map_take, List.map_drop, hsv]
        simp only [List.map_append, List.map_cons, List.map_take, List.map_drop, sval_st]
      have hsort : ∀ key : Nat → Nat, (foldR key (ns.take i)).Pairwise fun a b => key a ≤ key b := fun key => foldR_sorted key _ [] .nil
      obtain ⟨hsl, hsg⟩ := hkey _ _ hsv
      obtain ⟨hhl, hhg⟩ := hkey _ _ hhv2
      have hf1 := hfl4 (fun n => n)
      have hf2 := hfl4 (fun n => n / 2)
      refine insort_spec B S (fun vs' => by walk_at "set") key_len (f := fun k => (((foldR (fun n => n) (ns.take i)).getD k 0 : Nat) : Int)) (kx := ((ns.getD i 0 : Nat) : Int)) ?_ ?_ (by omega) ?_ (by omega) ?_
      · intro k v hv
        obtain ⟨t, rfl⟩ := hsg k v hv
        have hk := (List.getElem?_eq_some_iff.mp hv).1
        refine ⟨_, _, rfl, ?_, ?_⟩
        · rw [st_len, List.length_replicate]
          rw [List.getD_eq_getElem?_getD, List.getElem?_eq_getElem (by omega)]
          have := hmemb _ _ (List.getElem_mem (by omega : k < (foldR (fun n => n) (ns.take i)).length))
          show (foldR (fun n => n) (ns.take i))[k] ≤ 1000
          omega
        · rw [st_len, List.length_replicate]
      · exact ⟨_, _, rfl, by rw [st_len, List.length_replicate]; omega, by rw [st_len, List.length_replicate]⟩
      · intro a b hab hb'
        exact Int.ofNat_le.mpr (sorted_mono (hsort _) a b hab (by rw [hsl] at hb'; exact hb'))
      intro h tk r S hr1 hr2 hr3
      walk_at "ww"
      refine insort_spec B S (fun vs' => by walk_at "set") (key_half B) (f := fun k => (((foldR (fun n => n / 2) (ns.take i)).getD k 0 / 2 : Nat) : Int)) (kx := ((ns.getD i 0 / 2 : Nat) : Int)) ?_ ?_ (by omega) ?_ (by omega) ?_
      · intro k v hv
        obtain ⟨t, rfl⟩ := hhg k v hv
        have hk := (List.getElem?_eq_some_iff.mp hv).1
        refine ⟨_, _, rfl, ?_, ?_⟩
        · rw [st_len, List.length_replicate]
          rw [List.getD_eq_getElem?_getD, List.getElem?_eq_getElem (by omega)]
          have := hmemb _ _ (List.getElem_mem (by omega : k < (foldR (fun n => n / 2) (ns.take i)).length))
          show (foldR (fun n => n / 2) (ns.take i))[k] ≤ 1000
          omega
        · rw [st_len, List.length_replicate]
      · exact ⟨_, _, rfl, by rw [st_len, List.length_replicate]; omega, by rw [st_len, List.length_replicate]⟩
      · intro a b hab hb'
        exact Int.ofNat_le.mpr (sorted_mono (hsort (fun n => n / 2)) a b hab (by rw [hhl] at hb'; exact hb'))
      intro h tk r' S hr1' hr2' hr3'
      walk_at "ww"
      refine exI4 _ _ _ _ ⟨rfl, S, exI5 _ _ lv' fs' j' ⟨rfl, by walk_at "lk", by walk_at "lk", by walk_at "lk", by walk_at "lk", by omega, H, ?_, ?_⟩⟩
      · exact hstep (fun n => n) sv r _ hsv (by omega) (fun k hk => Int.ofNat_le.mp (hr2 k hk)) (fun k h1 h2 => Int.ofNat_lt.mp (hr3 k h1 (by omega)))
      · exact hstep (fun n => n / 2) hv2 r' _ hhv2 (by omega) (fun k hk => Int.ofNat_le.mp (hr2' k hk)) (fun k h1 h2 => Int.ofNat_lt.mp (hr3' k h1 (by omega)))
    · clear S H
      rintro h tk m' own' S ⟨sv, hv2, lv, fs, j, rfl, msh, mhs, mun, mtx, _, H, hsv, hhv2⟩
      have hdl4 : dv.length = 4 := hdl
      rw [hdl4] at H hsv hhv2
      rw [List.take_of_length_le (by omega)] at hsv hhv2
      walk_at "ww"
      refine srtS S (by walk_at "mem") hdv' (by omega) ?_
      intro h D1 vs1 ss1 S hs1 hp1 hso1
      have hw1 := words_sorted hp1 hso1
      rw [hw1] at hs1
      walk_at "ww"
      refine srtK (key_half B) S (by walk_at "mem") hdl (kz := ns.map fun n => ((n / 2 : Nat) : Int)) (by rw [List.length_map]; exact hn4) ?_ (fun x => ksk_t1 213 x) (by omega) ?_
      · intro i v k hv hk
        have hi4 : i < 4 := by
          have := (List.getElem?_eq_some_iff.mp hv).1
          omega
        obtain ⟨t, ht⟩ := map_sval hdv' i (List.replicate (ns.getD i 0) 32) (by rw [List.getElem?_map, List.getD_eq_getElem?_getD, List.getElem?_eq_getElem (by omega)]; rfl)
        rw [ht] at hv
        cases hv
        refine ⟨_, _, rfl, ?_, ?_⟩
        · rw [st_len, List.length_replicate]; have := hnbk i hi4; omega
        · rw [List.getElem?_map, List.getElem?_eq_getElem (by omega)] at hk
          cases hk
          rw [st_len, List.length_replicate, List.getD_eq_getElem?_getD, List.getElem?_eq_getElem (by omega)]; rfl
      intro h tk D2 S
      have hhs := halves_sorted hn4 (fun n hn => (hnb n hn).2) hdv'
      walk_at "ww"
      refine neSame (rdL (S.mem (by walk_at "mem")) (rdC (rdL (S.mem (by walk_at "mem")) (rdStrs hsv)) (rdC (rdL (S.mem (by walk_at "mem")) (rdStrs hhv2)) rd0))) (rdL (S.mem (by walk_at "mem")) (rdC (rdL (S.mem (by walk_at "mem")) (rdStrs hs1)) (rdC (rdL (S.mem (by walk_at "mem")) (rdStrs hhs)) rd0)))
        (shaped_two (words_small _) (words_small _)) hAu ?_
      clear hs1 hp1 hso1 hw1 hhs
      walk_at "ww"
      refine iterG S (by walk_at "mem") (by omega) (by omega) ?_
      intro h I S
      obtain ⟨sl, hsle⟩ : ∃ sl, sl = foldR (fun n => n) ns := ⟨_, rfl⟩
      have hslp : sl.Perm ns := by
        have := foldR_perm (fun n => n) ns []
        rw [List.append_nil] at this
        rw [hsle]; exact this
      have hsls : sl.Pairwise fun a b => a ≤ b := by rw [hsle]; exact foldR_sorted (fun n => n) ns [] .nil
      rw [← hsle] at hsv
      clear hsle
      have hsl4 : sl.length = 4 := by rw [hslp.length_eq, hn4]
      have hslb : ∀ x ∈ sl, 2 ≤ x ∧ x ≤ 11 := fun x hx => hnb x (hslp.mem_iff.mp hx)
      have hslk : ∀ k, k < 4 → 2 ≤ sl.getD k 0 ∧ sl.getD k 0 ≤ 11 := fun k hk => by
        rw [List.getD_eq_getElem?_getD, List.getElem?_eq_getElem (by omega)]
        exact hslb _ (List.getElem_mem _)
      have hsvl : sv.length = 4 := by rw [map_sval_len hsv, List.length_map, hsl4]
      have hsvF : ∀ (k : Nat) (v : Value), sv[k]? = some v → ∃ s t, v = Value.str s t ∧ s.length ≤ 1000 ∧ ((sl.getD k 0 : Nat) : Int) = s.length := fun k v hv => by
        have hk4 : k < 4 := by
          have := (List.getElem?_eq_some_iff.mp hv).1
          omega
        obtain ⟨t, ht⟩ := map_sval hsv k (List.replicate (sl.getD k 0) 32) (by rw [List.getElem?_map, List.getD_eq_getElem?_getD, List.getElem?_eq_getElem (by omega)]; rfl)
        rw [ht] at hv
        cases hv
        have := hslk k hk4
        exact ⟨_, _, rfl, by rw [st_len, List.length_replicate]; omega, by rw [st_len, List.length_replicate]⟩
      refine forG_inv (x := "k") 5 (fun i m' own' => 0 ≤ i ∧ own' = (lsh, Cel.lst sv) :: (196, Cel.obj (tabObj ps)) :: (L + 1 + 1 + 1, Cel.cel (some (.ref X.x))) :: (X.seg lv [] fs ++ bs) ∧ m' "shelf" = some (.ref lsh) ∧ m' "unit" = some (.int u tu) ∧ m' "text" = some (.str (st (ws.flatten ++ [101, 110, 100])) tt)) hA ?_ ?_
        (S.sub (own' := (I, Cel.rgi _ _) :: (lsh, Cel.lst sv) :: (196, Cel.obj (tabObj ps)) :: (L + 1 + 1 + 1, Cel.cel (some (.ref X.x))) :: (X.seg lv [] fs ++ bs)) (by walk_at "sl")) rfl ⟨by omega, rfl, msh, mun, mtx⟩
      · clear S
        rintro i h tk t m' own' J RL hRL hi ⟨hi0, rfl, msh, mun, mtx⟩ S
        obtain ⟨k, rfl⟩ : ∃ k : Nat, i = k := ⟨i.toNat, by omega⟩
        walk_at "ww"
        refine bisect_spec B S (by walk_at "mem") key_len (f := fun j => ((sl.getD j 0 : Nat) : Int)) hsvF trivial k (.inr ⟨⟨_, rfl⟩, by omega⟩) (by omega) (by omega) ?_ (by omega) ?_
        · intro a b _ hab hb'
          exact Int.ofNat_le.mpr (sorted_mono (key := fun n => n) hsls a b hab (by omega))
        intro h tk t r S hr1 hr2 hr3
        have hrk : r = k := by
          by_cases q : r < k
          · have h1 := hr3 r.toNat (by omega) (by omega)
            have h2 := hslk r.toNat (by omega)
            omega
          · omega
        rw [hrk]
        walk_at "ww"
        refine bisect_spec3 B S (by walk_at "mem") key_len (f := fun j => ((sl.getD j 0 : Nat) : Int)) hsvF trivial (by omega) (by omega) ?_ (by omega) ?_
        · intro a b _ hab hb'
          exact Int.ofNat_le.mpr (sorted_mono (key := fun n => n) hsls a b hab (by omega))
        intro h tk t' r' S hr1' hr2' hr3'
        have hrk' : r' = k := by
          by_cases q : (k : Int) < r'
          · have h1 := hr2' k (by omega) q
            have h2 := hslk k (by omega)
            omega
          · omega
        rw [hrk']
        walk_at "ww"
        refine neSame (da := .list [.int k, .int k]) (rdL (S.mem (by walk_at "mem")) (rdC rdI (rdC rdI rd0))) (rdL (S.mem (by walk_at "mem")) (rdC rdI (rdC rdI rd0))) (by rfl) hAu ?_
        walk_at "ww"
        exact exI4 _ _ _ _ ⟨rfl, S.sub (by walk_at "sl"), by omega, rfl, by walk_at "lk", by walk_at "lk", by walk_at "lk"⟩
      clear S
      rintro i h tk m' own' hi S ⟨hi0, rfl, msh, mun, mtx⟩
      walk_at "ww"
      refine iterL rfl S (by walk_at "mem") ?_
      intro h I S
      obtain ⟨pbl, hpbl⟩ : ∃ pbl, pbl = (sl.map fun n => List.replicate n 32) ++ [[46]] := ⟨_, rfl⟩
      obtain ⟨sum, hsum⟩ : ∃ sum, sum = sv ++ [Value.str (st [46]) t] := ⟨_, rfl⟩
      rw [← hsum] at S
      have hsumv : sum.map sval = pbl.map some := by rw [hsum, hpbl, List.map_append, List.map_append, hsv]; rfl
      have hpl5 : pbl.length = 5 := by rw [hpbl, List.length_append, List.length_map, hsl4]; rfl
      have hsl5 : sum.length = 5 := by rw [map_sval_len hsumv, hpl5]
      obtain ⟨LEFT, hLEFT⟩ : ∃ LEFT, LEFT = List.replicate j 10 ++ ((ws.drop 4).flatten ++ [101, 110, 100]) := ⟨_, rfl⟩
      rw [← hLEFT] at H
      refine forL_inv (x := "word") (l := l) (vs := sum) (fun i m' own' => ∃ pv, own' = (l, Cel.lst sum) :: (196, Cel.obj (tabObj ps)) :: (L + 1 + 1 + 1, Cel.cel (some (.ref X.x))) :: (X.seg lv pv fs ++ bs) ∧ m' "unit" = some (.int u tu) ∧ m' "text" = some (.str (st (ws.flatten ++ [101, 110, 100])) tt) ∧ LxSt X LEFT (pbl.take i) (1 + (ws.flatten ++ [101, 110, 100]).count 10) lv pv fs)
        ?_ hA ?_ ?_ (S.sub (own' := (I, Cel.lit l 0) :: (l, Cel.lst sum) :: (196, Cel.obj (tabObj ps)) :: (L + 1 + 1 + 1, Cel.cel (some (.ref X.x))) :: (X.seg lv [] fs ++ bs)) (by walk_at "sl")) ⟨[], rfl, mun, mtx, by rw [List.take_zero]; exact H⟩ (Nat.zero_le _)
      · rintro i m' own' ⟨pv, rfl, _⟩
        walk_at "mem"
      · clear S H mun mtx
        rintro i v h tk m' own' J RL hRL hv' ⟨pv, rfl, mun, mtx, H⟩ S
        have hi5 : i < 5 := by
          have := (List.getElem?_eq_some_iff.mp hv').1
          omega
        obtain ⟨tw, hgw⟩ := map_sval hsumv i pbl[i] (List.getElem?_eq_getElem (by omega))
        rw [hgw] at hv'
        cases hv'
        have mX : (X.x, Cel.ins 185 X.dx) ∈ X.seg lv pv fs ++ bs := List.mem_append_left _ (by unfold Lx.seg; simp)
        have mD : (X.dx, Cel.dct fs) ∈ X.seg lv pv fs ++ bs := List.mem_append_left _ (by unfold Lx.seg; simp)
        obtain ⟨hf51, hf52, hf53⟩ := H.f5
        walk_at "ww"
        refine mthA (f := 182) B S (by walk_at "mem") (by walk_at "mem") hf53 (by rfl) ?_
        walk_at "ww"
        refine push_spec B (LxO.mid X [_, _, _, _] bs) H S (by omega) (by rw [List.length_take]; omega) ?_
        clear S mX mD
        intro h tk pv' H S
        have S : St hb h L _ (_ :: _ :: _ :: _ :: (X.seg lv pv' fs ++ bs)) := S
        walk_at "ww"
        exact exI4 _ _ _ _ ⟨rfl, S, pv', rfl, by walk_at "lk", by walk_at "lk", by rw [List.take_add_one, List.getElem?_eq_getElem (by omega : i < pbl.length)]; exact H⟩
      clear S H mun mtx
      rintro h tk m' own' S ⟨pv, rfl, mun, mtx, H⟩
      rw [List.take_of_length_le (by omega)] at H
      have mX : (X.x, Cel.ins 185 X.dx) ∈ X.seg lv pv fs ++ bs := List.mem_append_left _ (by unfold Lx.seg; simp)
      have mD : (X.dx, Cel.dct fs) ∈ X.seg lv pv fs ++ bs := List.mem_append_left _ (by unfold Lx.seg; simp)
      obtain ⟨hf51, hf52, hf53⟩ := H.f5
      walk_at "ww"
      refine mthA (f := 175) B S (by walk_at "mem") (by walk_at "mem") hf52 (by rfl) ?_
      walk_at "ww"
      refine get_spec B Ok (LxO.mid X [_, _, _, _, _] bs) H S (by omega) hA ?_ (fun h tk t lv fs e => absurd (congrArg List.length e) (by rw [hpl5]; decide))
      clear S mX mD
      intro a pb' h tk t pv' hpb H S
      have S : St hb h L _ (_ :: _ :: _ :: _ :: _ :: (X.seg lv pv' fs ++ bs)) := S
      have hpbe : pbl = wd sl :: pbs sl [] := by
        rw [hpbl, ← pbs_eq sl []]; simp
      obtain ⟨ha, hpb'⟩ := List.cons.inj (hpbe.symm.trans hpb)
      rw [← ha]
      rw [← hpb'] at H
      walk_at "ww"
      have hX : ∃ (mm : Str → Option Value) (lco lrf : Addr) (t1 tw : Tok), mm "unit" = some (.int u tu) ∧ mm "text" = some (.str (st (ws.flatten ++ [101, 110, 100])) tt) ∧ mm "coins" = some (.ref lco) ∧ mm "refused" = some (.ref lrf) ∧ mm "word" = some (.str (st (wd sl)) tw) ∧
          St hb h L mm ((lrf, Cel.lst []) :: (lco, Cel.lst [.int 1 t1]) :: (196, Cel.obj (tabObj ps)) :: (L + 1 + 1 + 1, Cel.cel (some (.ref X.x))) :: (X.seg lv pv' fs ++ bs)) := by
        refine ⟨_, ?w1, ?w2, ?w3, ?w4, ?wa, ?wb, ?wc, ?wd, ?we, S.sub ?wf⟩
        case wf => walk_at "sl"
        case wa => walk_at "lk"
        case wb => walk_at "lk"
        case wc => walk_at "lk"
        case wd => walk_at "lk"
        case we => walk_at "lk"
      refine exE5 hX fun mm lco lrf t1 tw hX1 => anE6 hX1 fun mun mtx mco mrf mwd S => ?_
      clear hX hX1
      have P0 : Purse [1] sl [] := ⟨rfl, by simp, by simp, by rw [hsl4]; decide, by rw [hsl4]; decide, ⟨2, by rw [hsl4]; exact chk_all, fun c hc => by have := hslb c hc; omega⟩, hsls, fun c hc => by have := hslb c hc; show 1 ≤ c; omega⟩
      refine while_inv (fun n h' => ∃ m' bs' cs rf todo cv rv pv tw, n = todo.length ∧ Tb bs' ∧ St hb h' L m' ((lrf, Cel.lst rv) :: (lco, Cel.lst cv) :: (196, Cel.obj (tabObj ps)) :: (L + 1 + 1 + 1, Cel.cel (some (.ref X.x))) :: (X.seg lv pv fs ++ bs')) ∧
        m' "unit" = some (.int u tu) ∧ m' "text" = some (.str (st (ws.flatten ++ [101, 110, 100])) tt) ∧ m' "coins" = some (.ref lco) ∧ m' "refused" = some (.ref lrf) ∧ m' "word" = some (.str (st (wd todo)) tw) ∧
        LxSt X LEFT (pbs todo rf) (1 + (ws.flatten ++ [101, 110, 100]).count 10) lv pv fs ∧ cv.map ival = nmap cs ∧ rv.map sval = (rf.map fun n => List.replicate n 32).map some ∧ Purse cs todo rf) ?_ sl.length (exI9 mm bs [1] [] sl _ [] pv' tw ⟨rfl, Tb0, S, mun, mtx, mco, mrf, mwd, H, rfl, rfl, P0⟩)
      clear S H mun mtx mco mrf mwd
      intro n h tk RL hRL hI0
      refine exE9 hI0 fun m' bs' cs rf todo cv rv pv tw hI1 => anE12 hI1 fun e1 T S mun mtx mco mrf mwd H hcv hrv P => ?_
      clear hI0 hI1
      subst e1
      walk_at "ww"
      cases todo with
      | nil =>
        walk_at "ww"
        refine ListComp_ (by rfl) (by decide +kernel) ?_
        walk_at "ww"
        refine iterL rfl S (by walk_at "mem") ?_
        intro h I S
        have hrl4 := P.hr
        have hrvl : rv.length = rf.length := by rw [map_sval_len hrv, List.length_map]
        refine compGo (itrL (vs := rv)) (fun i acc ow => ∃ pv, ow = (lrf, Cel.lst rv) :: (lco, Cel.lst cv) :: (196, Cel.obj (tabObj ps)) :: (L + 1 + 1 + 1, Cel.cel (some (.ref X.x))) :: (X.seg lv pv fs ++ bs') ∧ acc.map sval = ((rf.take i).map fun n => List.replicate n 32).map some ∧
          LxSt X LEFT ((rf.drop i).map fun n => List.replicate n 32) (1 + List.count 10 (ws.flatten ++ [101, 110, 100])) lv pv fs) S hA (by omega) ?_ ?_ ?_ ?_
        · rintro i acc ow ⟨pv, rfl, _⟩
          walk_at "mem"
        · exact ⟨pv, rfl, rfl, H⟩
        · clear S H
          rintro C D i v acc ow h tk mc' hi' hv' ⟨pv, rfl, hac, H⟩ hal S
          have mX : (X.x, Cel.ins 185 X.dx) ∈ X.seg lv pv fs ++ bs' := List.mem_append_left _ (by unfold Lx.seg; simp)
          have mD : (X.dx, Cel.dct fs) ∈ X.seg lv pv fs ++ bs' := List.mem_append_left _ (by unfold Lx.seg; simp)
          obtain ⟨hf51, hf52, hf53⟩ := H.f5
          have hir : i < rf.length := by omega
          refine tst0 ?_
          walk_at "ww"
          refine mthA (f := 175) B S (by walk_at "mem") (by walk_at "mem") hf52 (by rfl) ?_
          walk_at "ww"
          rw [List.drop_eq_getElem_cons hir, List.map_cons] at H
          refine get_spec B Ok (LxO.mid X [_, _, _, _, _, _, _] bs') H S (by omega) hA ?_ (fun h tk t lv fs e => nomatch e)
          clear S mX mD H
          intro a pb' h tk t pv' hpb H S
          obtain ⟨ha, hp'⟩ := List.cons.inj hpb
          rw [← ha]
          rw [← hp'] at H
          refine ⟨h, tk, _, _, by first | dsimp only | rfl, S, pv', rfl, ?_, H⟩
          rw [List.map_append, hac, List.take_add_one, List.getElem?_eq_getElem hir, List.map_append, List.map_append]
          rfl
        clear S H
        rintro h tk D acc ow S ⟨pv, rfl, hac, H⟩
        rw [List.take_of_length_le (by omega)] at hac
        rw [List.drop_of_length_le (by omega), List.map_nil] at H
        walk_at "ww"
        refine neSame (da := .list ((rf.map fun n => List.replicate n 32).map fun k => .str (st k))) (rdL (S.mem (by walk_at "mem")) (rdStrs hac)) (rdL (S.mem (by walk_at "mem")) (rdStrs hrv)) (shaped_one (words_small _)) hAu ?_
        have S := S.sub (own' := (196, Cel.obj (tabObj ps)) :: (L + 1 + 1 + 1, Cel.cel (some (.ref X.x))) :: (X.seg lv pv fs ++ bs')) (by walk_at "sl")
        have mX : (X.x, Cel.ins 185 X.dx) ∈ X.seg lv pv fs ++ bs' := List.mem_append_left _ (by unfold Lx.seg; simp)
        have mD : (X.dx, Cel.dct fs) ∈ X.seg lv pv fs ++ bs' := List.mem_append_left _ (by unfold Lx.seg; simp)
        obtain ⟨hf51, hf52, hf53⟩ := H.f5
        have hpv0 : pv = [] := List.eq_nil_of_length_eq_zero (by simpa using congrArg List.length H.p)
        have hlxL : lx LEFT = ([101, 110, 100], []) := by
          have hw4 : ws.drop 4 = [] := by rw [hws]; rfl
          rw [hLEFT, hw4, List.flatten_nil, List.nil_append, lx_end]
        walk_at "ww"
        refine mthA (f := 175) B S (by walk_at "mem") (by walk_at "mem") hf52 (by rfl) ?_
        walk_at "ww"
        refine get_spec B Ok (LxO.mid X [_, _] bs') H S (by omega) hA (fun a pb' h tk t pv e => nomatch e) ?_
        clear S mX mD H
        intro h tk t lv2 fs2 _ H S
        rw [hlxL] at H ⊢
        dsimp only at H ⊢
        have S : St hb h L _ (_ :: _ :: (X.seg lv2 pv fs2 ++ bs')) := S
        have mX : (X.x, Cel.ins 185 X.dx) ∈ X.seg lv2 pv fs2 ++ bs' := List.mem_append_left _ (by unfold Lx.seg; simp)
        have mD : (X.dx, Cel.dct fs2) ∈ X.seg lv2 pv fs2 ++ bs' := List.mem_append_left _ (by unfold Lx.seg; simp)
        obtain ⟨hf51, hf52, hf53⟩ := H.f5
        walk_at "ww"
        refine mthA (f := 175) B S (by walk_at "mem") (by walk_at "mem") hf52 (by rfl) ?_
        walk_at "ww"
        refine get_spec B Ok (LxO.mid X [_, _] bs') H S (by omega) hA (fun a pb' h tk t pv e => nomatch e) ?_
        clear S mX mD H
        intro h tk t lv3 fs3 _ H S
        rw [lx_empty] at H ⊢
        dsimp only at H ⊢
        have S : St hb h L _ (_ :: _ :: (X.seg lv3 pv fs3 ++ bs')) := S
        have mX : (X.x, Cel.ins 185 X.dx) ∈ X.seg lv3 pv fs3 ++ bs' := List.mem_append_left _ (by unfold Lx.seg; simp)
        have mD : (X.dx, Cel.dct fs3) ∈ X.seg lv3 pv fs3 ++ bs' := List.mem_append_left _ (by unfold Lx.seg; simp)
        obtain ⟨tli, line, hline, htot⟩ := H.f1
        walk_at "ww"
        refine cntNl ?_
        intro t tk
        walk_at "ww"
        have e9 : (1 : Int) + ((List.count 10 (ws.flatten ++ [101, 110, 100]) : Nat) : Int) = ((line : Nat) : Int) := by rw [List.count_nil] at htot; omega
        rw [e9] at S
        refine eqSame (da := .list [.str (st [101, 110, 100]), .str (st []), .int (line : Nat)]) (rdL (S.mem (by walk_at "mem")) (rdC rdS (rdC rdS (rdC rdI rd0)))) (rdL (S.mem (by walk_at "mem")) (rdC rdS (rdC rdS (rdC rdI rd0)))) (shaped_end _) hAu ?_
        walk_at "ww"
        exact law_ends S hg T (by walk_at "mem") (fun y hy => .tail _ (.tail _ (.tail _ (.tail _ (List.mem_append_right _ hy)))))
      | cons c rest =>
        refine genG fun G hG => ?_
        obtain ⟨h2c, h11c⟩ : 2 ≤ c ∧ c ≤ 11 := (P.hch.choose_spec).2 c (.head _) |>.2
        obtain ⟨last, hlast⟩ : ∃ last, last = cs.getLastD 1 := ⟨_, rfl⟩
        obtain ⟨q, hq⟩ : ∃ q, q = (c - 1) / last + 1 := ⟨_, rfl⟩
        have hTn := P.turn hlast hq
        have hl1 : 1 ≤ last ∧ last ≤ 11 := by rw [hlast]; exact P.last
        have hstl := stop_lt hl1.1 (by omega) hq
        obtain ⟨hdf1, hdf2⟩ := div_facts hu0 hTn.cle hstl
        replace hdf1 := Hid.mk hdf1
        replace hdf2 := Hid.mk hdf2
        clear hq
        obtain ⟨stop, hstop⟩ : ∃ stop, stop = last * q := ⟨_, rfl⟩
        obtain ⟨hand, hhand⟩ : ∃ hand, hand = qh cs (last * q - c) := ⟨_, rfl⟩
        rw [← hhand] at hTn
        have hcz := P.hz
        have hrz := P.hr
        rw [List.length_cons] at hcz hrz
        have hcvl : cv.length = cs.length := nmap_len hcv
        have hrvl : rv.length = rf.length := by rw [map_sval_len hrv, List.length_map]
        have hne : cs ≠ [] := List.ne_nil_of_mem P.one
        have hst22 : stop ≤ 22 := by have := hTn.sle; omega
        have hq22 : q ≤ 22 := by
          have : q ≤ last * q := Nat.le_mul_of_pos_left _ (by omega)
          omega
        obtain ⟨tl, hlastv⟩ := nmap_last hcv hne
        have hlastv : cv.getLast? = some (.int (last : Nat) tl) := by
          rw [hlastv, hlast, List.getLastD_eq_getLast?, List.getLastD_eq_getLast?, List.getLast?_eq_some_getLast hne]; rfl
        have hneq : (wd (c :: rest) = [46]) = False := rep_ne h2c
        refine hG ?_
        clear hG G
        refine if_t (by simp [hneq]) ?_
        walk_at "ww"
        refine lastL S (by walk_at "mem") hlastv (by omega) ?_
        have hwd : wd (c :: rest) = List.replicate c 32 := rfl
        rw [hwd] at mwd
        walk_at "ww"
        simp only [List.length_replicate] at S
        refine slcE1 ?_
        walk_at "ww"
        refine slcS1 S (by rw [List.length_replicate]; omega) (by rw [List.length_replicate]; omega) ?_
        intro h t tk S
        have hdrop : (List.replicate c 32).drop 1 = List.replicate (c - 1) 32 := by simp
        rw [hdrop]
        walk_at "ww"
        refine nanny_spec B S (by simp; omega) ?_ (by omega) hA ?_
        · intro x hx
          rcases List.mem_append.mp hx with hx | hx
          · exact .inl (List.eq_of_mem_replicate hx)
          · exact .inr (List.mem_singleton.mp hx)
        intro h tk x1 d1 f1 n1 c1 cv1 t1 t2 hnt hnorm hind hcv1 S
        walk_at "ww"
        refine mthA (f := 52) B S (by walk_at "mem") (by walk_at "mem") hind (by rfl) ?_
        walk_at "ww"
        refine indent_spec B S (x := x1) (dx := d1) (tn := n1) (tc := c1) (by walk_at "mem") (by walk_at "mem") (by walk_at "mem") (by walk_at "mem") hnt hnorm hcv1 (Nat.le_trans (ws_len _).1 (by simp; omega)) (by omega) (by omega) (by omega) hA ?_
        intro h tk t S
        have he1 : ind (wsF (List.replicate (c - 1) 32 ++ [9])).1 (wsF (List.replicate (c - 1) 32 ++ [9])).2.1 (wsF (List.replicate (c - 1) 32 ++ [9])).2.2 last = stop := hTn.e1.trans hstop.symm
        rw [he1]
        have S := S.sub (own' := (lrf, Cel.lst rv) :: (lco, Cel.lst cv) :: (196, Cel.obj (tabObj ps)) :: (L + 1 + 1 + 1, Cel.cel (some (.ref X.x))) :: (X.seg lv pv fs ++ bs')) (by walk_at "sl")
        clear hnt hnorm hind hcv1 he1
        walk_at "ww"
        refine mulI (mulSm (by omega)) ?_
        intro t tk
        walk_at "ww"
        refine mulI (mulSm (by omega)) ?_
        intro t tk
        walk_at "ww"
        have hbl : Builtin.Int.intBits ((last : Int) * u) ≤ 4 + Builtin.Int.intBits u :=
          PySem.intBits_mul_le (PySem.intBits_le_iff.mpr (by rw [Int.natAbs_natCast]; omega)) (Nat.le_refl _)
        have hbc : Builtin.Int.intBits (-(c : Int) * u) ≤ 4 + Builtin.Int.intBits u :=
          PySem.intBits_mul_le (PySem.intBits_le_iff.mpr (by rw [Int.natAbs_neg, Int.natAbs_natCast]; omega)) (Nat.le_refl _)
        have hbu : Builtin.Int.intBits u ≤ Builtin.Int.intBits ((last : Int) * u) := by
          refine PySem.intBits_le_of_natAbs ?_ (Nat.le_refl _)
          rw [Int.natAbs_mul, Int.natAbs_natCast]
          exact Nat.le_mul_of_pos_left _ (by omega)
        refine int_divmod_3 B S (fun _ => by walk_at "sw") T (Int.mul_ne_zero (by omega) hu0) (by omega) (by omega) (by omega) hA ?_
        clear T
        intro bs2 h tk a' t1 t2 T S
        rw [hdf1.out, hdf2.out] at S
        clear hdf1 hdf2 hbl hbc hbu
        walk_at "ww"
        refine mulI (mulSm (by omega)) ?_
        intro t tk
        have hnn : (- -(q : Int)) * (last : Int) = ((stop : Nat) : Int) := by
          rw [Int.neg_neg, hstop, Nat.mul_comm]; push_cast; rfl
        have hso : ((stop : Nat) : Int) - (c : Int) = ((last * q - c : Nat) : Int) := by
          rw [← hstop, Int.natCast_sub (by rw [hstop]; exact hTn.cle)]
        rw [hnn]
        walk_at "ww"
        refine mulI (mulSm (by omega)) ?_
        intro t tk
        rw [hso]
        clear hnn hso
        walk_at "ww"
        refine neSame (da := .list [.int (stop : Nat), .int (((last * q - c : Nat) : Int) * u)]) (rdL (S.mem (by walk_at "mem")) (rdC rdI (rdC rdI rd0))) (rdL (S.mem (by walk_at "mem")) (rdC rdI (rdC rdI rd0))) (by rfl) hAu ?_
        have S := S.sub (own' := (lrf, Cel.lst rv) :: (lco, Cel.lst cv) :: (196, Cel.obj (tabObj ps)) :: (L + 1 + 1 + 1, Cel.cel (some (.ref X.x))) :: (X.seg lv pv fs ++ bs2)) (by walk_at "sl")
        walk_at "ww"
        rw [show (((((last * q - c : Nat) : Int) * u).natAbs : Nat) : Int) = ((last * q - c : Nat) : Int) * ((u.natAbs : Nat) : Int) by rw [Int.natAbs_mul, Int.natAbs_natCast]; push_cast; rfl]
        have hc12 : ∀ i, cs.getD i 0 ≤ 12 := fun i => by
          rw [List.getD_eq_getElem?_getD]
          cases qq : cs[i]? with
          | none => exact Nat.zero_le _
          | some y => have := P.hp y (List.mem_of_getElem? qq); show y ≤ 12; omega
        refine quick_hand_spec B S (fun _ => by walk_at "sw") T (u := ((u.natAbs : Nat) : Int)) (o := last * q - c) (cs := cs) (fun bs' => by walk_at "mem") hcv (fun i j hij hj => sorted_mono (key := fun n => n) P.hs i j hij hj) P.h0 hc12 (by omega) (by omega)
          (Nat.le_trans (PySem.intBits_le_of_natAbs (by rw [Int.natAbs_natCast]; exact Nat.le_refl _) hub) (by omega)) (by omega) (by omega) hA ?_
        clear T
        intro bs3 h tk lp pv3 T S hpv3
        rw [← hhand] at hpv3
        have hpl3 : pv3.length = hand.length := by simpa using congrArg List.length hpv3
        have hhl := hTn.hlen
        have hql : q * last ≤ 22 := by rw [Nat.mul_comm, ← hstop]; exact hst22
        walk_at "ww"
        refine joinS (ks := List.replicate q (List.replicate last 32)) S (by walk_at "mem") (by rw [show (- -(q : Int)).toNat = q by omega, Int.toNat_natCast, List.map_replicate, List.map_replicate, sval_st]) (by simp; omega) ?_
        intro t tk
        have hold : glue [9] (List.replicate q (List.replicate last 32)) = runs (List.replicate q last) := by unfold runs; rw [List.map_replicate]
        have hq1 := hTn.q1
        have holl : (runs (List.replicate q last)).length ≤ 100 := old_len hq1 hql hq22
        rw [hold]
        walk_at "ww"
        refine nanny_spec B S (by omega) (runs_mem _) (by omega) hA ?_
        intro h tk xo dxo fo2 no co cvo to1 to2 hnto hnormo hindo hcvo S
        have S := S.sub (own' := (no, Cel.obj (tupO [.ref co, .int ((wsF (runs (List.replicate q last))).2.1 : Nat) to2])) :: (co, Cel.obj (tupO cvo)) :: (xo, Cel.ins 83 dxo) :: (dxo, Cel.dct fo2) :: (lp, Cel.lst pv3) :: (lrf, Cel.lst rv) :: (lco, Cel.lst cv) :: (196, Cel.obj (tabObj ps)) :: (L + 1 + 1 + 1, Cel.cel (some (.ref X.x))) :: (X.seg lv pv fs ++ bs3)) (by walk_at "sl")
        have ho1 : ind (wsF (runs (List.replicate q last))).1 (wsF (runs (List.replicate q last))).2.1 (wsF (runs (List.replicate q last))).2.2 1 = stop + (q - 1) := hTn.o1.1.trans (by rw [hstop])
        have ho2 : ((ind (wsF (runs (List.replicate q last))).1 (wsF (runs (List.replicate q last))).2.1 (wsF (runs (List.replicate q last))).2.2 last : Nat) : Int) = 2 * ((stop : Nat) : Int) - (last : Int) := by
          have : ind (wsF (runs (List.replicate q last))).1 (wsF (runs (List.replicate q last))).2.1 (wsF (runs (List.replicate q last))).2.2 last + last = 2 * (last * q) := hTn.o2
          rw [← hstop] at this
          omega
        have hn1 : ind (wsF (runs (c :: hand))).1 (wsF (runs (c :: hand))).2.1 (wsF (runs (c :: hand))).2.2 1 = stop + hand.length := hTn.n1.1.trans (by rw [hstop])
        obtain ⟨F, hF⟩ : ∃ F, F = (if hand = [] then 0 else last * (hand.length - 1) + hand.getLastD 0) := ⟨_, rfl⟩
        have hn2 : ind (wsF (runs (c :: hand))).1 (wsF (runs (c :: hand))).2.1 (wsF (runs (c :: hand))).2.2 last = stop + F := hTn.n2.trans (by rw [hstop, hF])
        replace ho1 := Hid.mk ho1
        replace ho2 := Hid.mk ho2
        replace hn1 := Hid.mk hn1
        replace hn2 := Hid.mk hn2
        replace hF := Hid.mk hF
        have hnewl : (runs (c :: hand)).length ≤ 200 := by
          rw [runs_len, List.sum_cons, hTn.hsum]
          omega
        walk_at "ww"
        refine joinS (ks := List.replicate c 32 :: hand.map fun n => List.replicate n 32) S (by walk_at "mem") (by rw [List.map_append, hpv3, List.map_cons, List.map_cons, List.map_map]; rfl) ?_ ?_
        · rw [List.map_cons, List.map_map, List.sum_cons, List.length_cons, List.length_map]
          have : (hand.map (List.length ∘ fun n => List.replicate n 32)) = hand := (List.map_congr_left fun x _ => by simp).trans (List.map_id hand)
          rw [this, hTn.hsum, List.length_replicate]
          simp only [List.length_cons, List.length_nil]
          omega
        intro t tk
        have hnew : glue [9] (List.replicate c 32 :: hand.map fun n => List.replicate n 32) = runs (c :: hand) := rfl
        rw [hnew]
        walk_at "ww"
        refine nanny_spec B S (by omega) (runs_mem _) (by omega) hA ?_
        intro h tk xn dxn fn2 nn cn cvn tn1 tn2 hntn hnormn hindn hcvn S
        have S := S.sub (own' := (nn, Cel.obj (tupO [.ref cn, .int ((wsF (runs (c :: hand))).2.1 : Nat) tn2])) :: (cn, Cel.obj (tupO cvn)) :: (xn, Cel.ins 83 dxn) :: (dxn, Cel.dct fn2) :: (no, Cel.obj (tupO [.ref co, .int ((wsF (runs (List.replicate q last))).2.1 : Nat) to2])) :: (co, Cel.obj (tupO cvo)) :: (xo, Cel.ins 83 dxo) :: (dxo, Cel.dct fo2) :: (lp, Cel.lst pv3) :: (lrf, Cel.lst rv) :: (lco, Cel.lst cv) :: (196, Cel.obj (tabObj ps)) :: (L + 1 + 1 + 1, Cel.cel (some (.ref X.x))) :: (X.seg lv pv fs ++ bs3)) (by walk_at "sl")
        walk_at "ww"
        refine mthA (f := 52) B S (by walk_at "mem") (by walk_at "mem") hindo (by rfl) ?_
        walk_at "ww"
        refine indent_spec (tab := 1) B S (x := xo) (dx := dxo) (tn := no) (tc := co) (by walk_at "mem") (by walk_at "mem") (by walk_at "mem") (by walk_at "mem") hnto hnormo hcvo (Nat.le_trans (ws_len _).1 (by omega)) (by omega) (by omega) (by omega) hA ?_
        intro h tk t S
        rw [ho1.out]
        walk_at "ww"
        refine mthA (f := 52) B S (by walk_at "mem") (by walk_at "mem") hindn (by rfl) ?_
        walk_at "ww"
        refine indent_spec (tab := 1) B S (x := xn) (dx := dxn) (tn := nn) (tc := cn) (by walk_at "mem") (by walk_at "mem") (by walk_at "mem") (by walk_at "mem") hntn hnormn hcvn (Nat.le_trans (ws_len _).1 (by omega)) (by omega) (by omega) (by omega) hA ?_
        intro h tk t S
        rw [hn1.out]
        have hnto' := hnto
        have hntn' := hntn
        rw [hTn.o1.2] at hnto'
        rw [hTn.n1.2] at hntn'
        walk_at "ww"
        obtain ⟨en, hen⟩ : ∃ en, en = l := ⟨_, rfl⟩
        rw [← hen] at S ⊢
        refine subL S (by walk_at "mem") (by decide) (by decide) rfl ?_
        walk_at "ww"
        refine subL S (by walk_at "mem") (by decide) (by decide) rfl ?_
        walk_at "ww"
        rw [show (((stop + (q - 1) : Nat) : Int) - ((q - 1 : Nat) : Int)) = ((stop : Nat) : Int) by omega, show (((stop + hand.length : Nat) : Int) - ((hand.length : Nat) : Int)) = ((stop : Nat) : Int) by omega] at S
        refine neSame (da := .list [.int (stop : Nat), .int (stop : Nat)]) (rdL (S.mem (by walk_at "mem")) (rdC rdI (rdC rdI rd0))) (rdL (S.mem (by walk_at "mem")) (rdC rdI (rdC rdI rd0))) (by rfl) hAu ?_
        obtain ⟨te1, te2, S⟩ : ∃ te1 te2, St hb h L _ ((en, Cel.lst [.int ((stop + (q - 1) : Nat) : Int) te1, .int ((stop + hand.length : Nat) : Int) te2]) :: (nn, Cel.obj (tupO [.ref cn, .int ((wsF (runs (c :: hand))).2.1 : Nat) tn2])) :: (cn, Cel.obj (tupO cvn)) :: (xn, Cel.ins 83 dxn) :: (dxn, Cel.dct fn2) :: (no, Cel.obj (tupO [.ref co, .int ((wsF (runs (List.replicate q last))).2.1 : Nat) to2])) :: (co, Cel.obj (tupO cvo)) :: (xo, Cel.ins 83 dxo) :: (dxo, Cel.dct fo2) :: (lp, Cel.lst pv3) :: (lrf, Cel.lst rv) :: (lco, Cel.lst cv) :: (196, Cel.obj (tabObj ps)) :: (L + 1 + 1 + 1, Cel.cel (some (.ref X.x))) :: (X.seg lv pv fs ++ bs3)) := by
          refine ⟨?g1, ?g2, S.sub ?g3⟩
          case g3 => walk_at "sl"
        walk_at "ww"
        refine ite_pair (Q' := fun v s₁ => ∃ t tk', v = .int ((F : Nat) : Int) t ∧ s₁ = ⟨h, s1.gens, s1.drawn, tk', s1.os⟩) (fun hb1 => ?_) (fun hb1 => ?_) ?_
        · have hne3 : hand ≠ [] := by
            intro e
            rw [e] at hpl3
            have : pv3 = [] := List.eq_nil_of_length_eq_zero hpl3
            rw [this] at hb1
            cases hb1
          have hlp : 0 < hand.length := List.length_pos_iff.mpr hne3
          obtain ⟨th, hgh⟩ : ∃ th, pv3.getLast? = some (.str (st (List.replicate (hand.getLastD 0) 32)) th) := by
            obtain ⟨th, h1⟩ := map_sval (ks := hand.map fun n => List.replicate n 32) (by rw [hpv3, List.map_map]; rfl) (hand.length - 1) (List.replicate (hand.getLastD 0) 32) (by
              rw [List.getElem?_map, List.getLastD_eq_getLast?, List.getLast?_eq_getElem?, List.getElem?_eq_getElem (by omega)]; rfl)
            exact ⟨th, by rw [List.getLast?_eq_getElem?, hpl3]; exact h1⟩
          have hsm : hand.getLastD 0 < last := by
            rw [List.getLastD_eq_getLast?, List.getLast?_eq_some_getLast hne3]
            exact hTn.small _ (List.getLast_mem hne3)
          walk_at "ww"
          refine mulI (mulSm (by omega)) ?_
          intro t tk
          walk_at "ww"
          refine lastL S (by walk_at "mem") hgh (by omega) ?_
          walk_at "ww"
          refine ⟨t, tk, ?_, by dsimp only⟩
          have e1 : ((pv3.length : Nat) : Int) - 1 = ((hand.length - 1 : Nat) : Int) := by omega
          rw [e1, List.length_replicate, ← Int.natCast_mul, ← Int.natCast_add, hF.out, if_neg hne3]
        · have he3 : hand = [] := nil_of_nil hpl3 fun y z e => hb1 (by rw [e]; rfl)
          walk_at "ww"
          exact ⟨t, tk, by rw [hF.out, if_pos he3]; rfl, by dsimp only⟩
        rintro v s₁ ⟨tf, tk, rfl, rfl⟩
        walk_at "ww"
        refine mthA (f := 52) B S (by walk_at "mem") (by walk_at "mem") hindo (by rfl) ?_
        walk_at "ww"
        refine indent_spec B S (x := xo) (dx := dxo) (tn := no) (tc := co) (by walk_at "mem") (by walk_at "mem") (by walk_at "mem") (by walk_at "mem") hnto hnormo hcvo (Nat.le_trans (ws_len _).1 (by omega)) (by omega) (by omega) (by omega) hA ?_
        intro h tk t S
        rw [ho2.out]
        walk_at "ww"
        refine mthA (f := 52) B S (by walk_at "mem") (by walk_at "mem") hindn (by rfl) ?_
        walk_at "ww"
        refine indent_spec B S (x := xn) (dx := dxn) (tn := nn) (tc := cn) (by walk_at "mem") (by walk_at "mem") (by walk_at "mem") (by walk_at "mem") hntn hnormn hcvn (Nat.le_trans (ws_len _).1 (by omega)) (by omega) (by omega) (by omega) hA ?_
        intro h tk t S
        rw [hn2.out, show ((stop + F : Nat) : Int) = ((stop : Nat) : Int) + ((F : Nat) : Int) by omega]
        walk_at "ww"
        refine neSame (da := .list [.int (2 * ((stop : Nat) : Int) - (last : Int)), .int (((stop : Nat) : Int) + ((F : Nat) : Int))]) (rdL (S.mem (by walk_at "mem")) (rdC rdI (rdC rdI rd0))) (rdL (S.mem (by walk_at "mem")) (rdC rdI (rdC rdI rd0))) (by rfl) hAu ?_
        have S := S.sub (own' := (en, Cel.lst [.int ((stop + (q - 1) : Nat) : Int) te1, .int ((stop + hand.length : Nat) : Int) te2]) :: (lp, Cel.lst pv3) :: (lrf, Cel.lst rv) :: (lco, Cel.lst cv) :: (196, Cel.obj (tabObj ps)) :: (L + 1 + 1 + 1, Cel.cel (some (.ref X.x))) :: (X.seg lv pv fs ++ bs3)) (by walk_at "sl")
        walk_at "ww"
        refine subL S (by walk_at "mem") (by decide) (by decide) rfl ?_
        walk_at "ww"
        refine subL S (by walk_at "mem") (by decide) (by decide) rfl ?_
        walk_at "ww"
        rw [show (last : Int) + (c : Int) = ((last + c : Nat) : Int) by omega]
        refine table_spec B S (cs := cs ++ [c]) (by walk_at "mem") (nmap_app hcv _ _) (List.mem_append_left _ P.one) ?_ (by rw [List.length_append, List.length_singleton]; omega) (by omega) (by omega) hA ?_
        · intro x hx
          rcases List.mem_append.mp hx with hx | hx
          · exact (P.hp x hx).1
          · rw [List.mem_singleton.mp hx]; omega
        intro h tk tp lq lf qv fv S hqv hfv
        walk_at "ww"
        have hdec : decide (((stop + hand.length : Nat) : Int) ≤ ((stop + (q - 1) : Nat) : Int)) = takes cs c := by
          rw [hTn.tak]; exact decide_eq_decide.mpr (by omega)
        rw [hdec, show (1 : Int) + ((pv3.length : Nat) : Int) = ((1 + hand.length : Nat) : Int) by omega] at S
        refine eqInts (rdL (S.mem (by walk_at "mem")) (rdInts (nmap_ints hqv))) (rdL (S.mem (by walk_at "mem")) (rdInts (nmap_ints hfv))) hAu ?_
        rw [dec_cast, hTn.tab]
        walk_at "ww"
        have hqk : (tabF (cs ++ [c]) (last + c)).1.getD stop 0 = 1 + hand.length := by rw [hstop]; exact hTn.qk
        have hsle := hTn.sle
        obtain ⟨tqs, hgq⟩ := nmap_get hqv (i := stop) (by rw [(tabF_len _ _).1, hstop]; omega)
        rw [hqk] at hgq
        refine subL S (by walk_at "mem") (by omega) (by omega) (by rw [Int.toNat_natCast]; exact hgq) ?_
        walk_at "ww"
        refine neSame (da := .list [.bool (takes cs c), .int ((1 + hand.length : Nat) : Int)]) (rdL (S.mem (by walk_at "mem")) (rdC rdB (rdC rdI rd0))) (rdL (S.mem (by walk_at "mem")) (rdC rdB (rdC rdI rd0))) (by rfl) hAu ?_
        have S := S.sub (own' := (lrf, Cel.lst rv) :: (lco, Cel.lst cv) :: (196, Cel.obj (tabObj ps)) :: (L + 1 + 1 + 1, Cel.cel (some (.ref X.x))) :: (X.seg lv pv fs ++ bs3)) (by walk_at "sl")
        have mX : (X.x, Cel.ins 185 X.dx) ∈ X.seg lv pv fs ++ bs3 := List.mem_append_left _ (by unfold Lx.seg; simp)
        have mD : (X.dx, Cel.dct fs) ∈ X.seg lv pv fs ++ bs3 := List.mem_append_left _ (by unfold Lx.seg; simp)
        obtain ⟨hf51, hf52, hf53⟩ := H.f5
        walk_at "ww"
        refine if_s (fun htk => ?_) (fun htk => ?_)
        · have P' := P.take htk
          walk_at "ww"
          refine mthA (f := 175) B S (by walk_at "mem") (by walk_at "mem") hf52 (by rfl) ?_
          walk_at "ww"
          have H1 : LxSt X LEFT (wd rest :: pbs rest rf) (1 + (ws.flatten ++ [101, 110, 100]).count 10) lv pv fs := by
            rw [← pbs_eq]; exact H
          refine get_spec B Ok (LxO.mid X [_, _, _, _] bs3) H1 S (by omega) hA ?_ (fun h tk t lv fs e => nomatch e)
          clear S mX mD H
          intro a pb' h tk t pv' hpb H S
          obtain ⟨ha, hp'⟩ := List.cons.inj hpb
          rw [← ha]
          rw [← hp'] at H
          have S : St hb h L _ (_ :: _ :: _ :: _ :: (X.seg lv pv' fs ++ bs3)) := S
          walk_at "ww"
          exact exI3 rest.length h tk ⟨Nat.lt_succ_self _, by first | dsimp only | rfl, exI9 _ bs3 (cs ++ [c]) rf rest _ rv pv' _ ⟨rfl, T, S, by walk_at "lk", by walk_at "lk", by walk_at "lk", by walk_at "lk", by walk_at "lk", H, nmap_app hcv _ _, hrv, P'⟩⟩
        · have hfk : takes cs c = false := by simpa using htk
          have P' := P.pass hfk
          walk_at "ww"
          refine mthA (f := 182) B S (by walk_at "mem") (by walk_at "mem") hf53 (by rfl) ?_
          walk_at "ww"
          refine push_spec B (LxO.mid X [_, _, _, _] bs3) H S (by omega) (by simp only [pbs, List.length_append, List.length_map, List.length_cons, List.length_nil]; omega) ?_
          clear S mX mD H
          intro h tk pv' H S
          have S : St hb h L _ (_ :: _ :: _ :: _ :: (X.seg lv pv' fs ++ bs3)) := S
          have mX : (X.x, Cel.ins 185 X.dx) ∈ X.seg lv pv' fs ++ bs3 := List.mem_append_left _ (by unfold Lx.seg; simp)
          have mD : (X.dx, Cel.dct fs) ∈ X.seg lv pv' fs ++ bs3 := List.mem_append_left _ (by unfold Lx.seg; simp)
          have hpe : pbs (c :: rest) rf ++ [List.replicate c 32] = wd rest :: pbs rest (rf ++ [c]) := by
            rw [← pbs_eq, List.map_append]; simp [pbs]
          rw [hpe] at H
          walk_at "ww"
          refine mthA (f := 175) B S (by walk_at "mem") (by walk_at "mem") hf52 (by rfl) ?_
          walk_at "ww"
          refine get_spec B Ok (LxO.mid X [_, _, _, _] bs3) H S (by omega) hA ?_ (fun h tk t lv fs e => nomatch e)
          clear S mX mD H
          intro a pb' h tk t pv2 hpb H S
          obtain ⟨ha, hp'⟩ := List.cons.inj hpb
          rw [← ha]
          rw [← hp'] at H
          have S : St hb h L _ (_ :: _ :: _ :: _ :: (X.seg lv pv2 fs ++ bs3)) := S
          walk_at "ww"
          exact exI3 rest.length h tk ⟨Nat.lt_succ_self _, by first | dsimp only | rfl, exI9 _ bs3 cs (rf ++ [c]) rest cv _ pv2 _ ⟨rfl, T, S, by walk_at "lk", by walk_at "lk", by walk_at "lk", by walk_at "lk", by walk_at "lk", H, hcv, by rw [List.map_append, hrv, List.map_append, List.map_append]; rfl, P'⟩⟩
    · exact exI5 [] [] lv fs 0 ⟨rfl, msh, mhs, mun, mtx, Nat.zero_le _, by rw [List.drop_zero]; exact H, rfl, rfl⟩)
end Mine
theorem PySem.Challenge.cw_tv0050_01_holds : PySem.Challenge.rw_tv0050_01.Holds := by
  exact Mine.lawHolds
