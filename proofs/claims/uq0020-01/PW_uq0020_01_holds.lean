import PyProof.Rows.All
import Wide.All
import OpenK.AllK
import Wide.FinOn
import Lean
import PySem.Challenge.RW_uq0020_01
set_option Elab.async false
set_option maxRecDepth 100000
set_option maxHeartbeats 8000000

noncomputable section -- Hd
open PySem PySem.W PyProof.Rows
set_option maxRecDepth 100000
namespace Mine
/-- of the top, the law's def alone is looked at; every other name is loose -/
noncomputable def lawOnly : List Stmt := PySem.Challenge.pw_uq0020_01.main.body.drop 69
noncomputable def view : Program := { PySem.Challenge.pw_uq0020_01 with main := { PySem.Challenge.pw_uq0020_01.main with body := lawOnly } }
noncomputable def loose : List Str := (PySem.Challenge.pw_uq0020_01.main.body.take 69).flatMap bindsAtTop
theorem said : OpenLaw.wellSaid PySem.Challenge.rw_uq0020_01 = true := (congrFun Fast.te9446332074065402090 _).trans (by decide +kernel)
theorem boot (N : Nat) (le : Nat.ble 600 N = true) : ∀ w : World, (fencedOpening treeTable PySem.Challenge.pw_uq0020_01 w N).map (fun s => (s.heap, s.gens, s.drawn, s.toks)) = some (boot_heap w.params, Array.mk [], boot_drawn, boot_toks) :=
  boot_open (by kernel_rfl) le (fun s => by kernel_rfl)
/-- the top's run begins where every plain text's opening ends; the one row of the world that it asks is split -/
theorem left_of_boot {p q : Program} {loose : List Str} {Xt : Shared → Bool} {α : Type} {Yf : Shared → α} {Ya : World → α} {N : Nat} {g0 : Bool} (row : String)
    (open_ : ∀ w : World, (fencedOpening treeTable p w N).map (fun s => (s.heap, s.gens, s.drawn, s.toks)) = some (boot_heap w.params, Array.mk [], boot_drawn, boot_toks))
    (hf : ∀ (w : World) (os : OsState), (topFrom treeTable p (w.withFollow row false) N ⟨boot_heap w.params, Array.mk [], boot_drawn, boot_toks, os⟩).map (fun s => (openSeen q loose (importedModules p.main.body) Xt g0 s, Yf s)) = some (openGood q loose, Ya (w.withFollow row false)))
    (ht : ∀ (w : World) (os : OsState), (topFrom treeTable p (w.withFollow row true) N ⟨boot_heap w.params, Array.mk [], boot_drawn, boot_toks, os⟩).map (fun s => (openSeen q loose (importedModules p.main.body) Xt g0 s, Yf s)) = some (openGood q loose, Ya (w.withFollow row true))) :
    LeftO p q loose Xt Yf Ya N g0 := fun w => by
  obtain ⟨⟨h, gs, d, k, os⟩, e, e'⟩ := Option.map_eq_some_iff.mp (open_ w)
  obtain ⟨rfl, rfl, rfl, rfl⟩ : h = boot_heap w.params ∧ gs = Array.mk [] ∧ d = boot_drawn ∧ k = boot_toks := by simpa using e'
  have hw := World.withFollow_self w row
  unfold openEnds
  rw [e]
  cases hb : w.params.followText row <;> rw [hb] at hw
  · have := hf w os
    rw [hw] at this
    exact this
  · have := ht w os
    rw [hw] at this
    exact this
theorem holds_both {r : OpenRow} {q : Program} {loose : List Str} {Xt : Shared → Bool} {XP : (Str → Option Value) → Heap → Prop} {α : Type} {Yf : Shared → α} {Ya : World → α} {YP : World → Heap → Prop} {d : DefRec} {kwd : List (Str × Expr)} {N : Nat}
    (hY : ∀ w s, Yf s = Ya w → YP w s.heap) (hYk : ∀ w h h', YP w h → (∀ b o, h.get? b = some o → h'.get? b = some o) → YP w h')
    (hX : ∀ s, Xt s = true → XP (s.heap.nsMap mainGlobals) s.heap) (hXk : ∀ mg h h', XP mg h → (∀ b o, h.get? b = some o → h'.get? b = some o) → XP mg h')
    (hdef : defOf q r.name = some (d, kwd)) (hp : r.prog.theDef r.name = some (d.params, d.body, d.scope)) (hk : kwWritten? d.params.kwonlyargs d.params.kw_defaults = some kwd) (hRf : ∀ s, Xt s = true → RecFacts r.records s.heap) (hwr : (!r.writes || r.records.isEmpty) = true)
    (k1 : r.wellSaid = true) (ok : (chainsOk q && opensWell r.prog && (frees r.toRowW && r.within.isEmpty)) = true) (hb : r.prog.bare) (hw : r.toRowW.promised)
    (both : LeftO r.prog q loose Xt Yf Ya N ∧ WalkO q loose XP YP r.toRowW d kwd fun f vs => PySem.call f vs) : r.Holds :=
  holds_open both.1 hY hYk hX hXk hdef hp hk hRf hwr k1 ok hb hw both.2
local macro_rules | `(tactic| o_law) => `(tactic| refine holds_law Mine.said fun said => ?_)
set_option hygiene false in
local macro_rules | `(tactic| o_head $H) => `(tactic| refine Mine.holds_both (q := Mine.view) (loose := Mine.loose) (Xt := fun s => xlAt Mine.view [] s && recOk (RowW.records (OpenRow.toRowW (OpenLaw.row PySem.Challenge.rw_uq0020_01))) s) (XP := XL Mine.view []) (Yf := Hook.obs $H) (Ya := Hook.val $H) (YP := Hook.says $H) (N := 4886) (Hook.of $H) (Hook.keeps $H) (fun s e => xl_of s (Bool.and_eq_true_iff.mp e).1) XL.keeps (by rfl) (by rfl) (by rfl) (fun s e => recFacts_of (Bool.and_eq_true_iff.mp e).2) (by rfl) (by first | assumption | decide +kernel) (by decide +kernel) ⟨rfl, rfl, rfl, rfl, rfl, by decide +kernel⟩ ?hw ?hc)
open_top hd for PySem.Challenge.rw_uq0020_01
end Mine
end

noncomputable section -- Hl
open PySem PySem.W PyProof.Rows
set_option maxRecDepth 1000000
namespace Mine
noncomputable def addrs : List Nat := [2, 3, 15, 17, 18, 20, 21, 22, 23, 24, 26, 27, 29, 30, 31, 33, 34, 36, 37, 38, 40, 41, 43, 44, 45, 47, 48, 50, 51, 62, 64, 65, 67, 68, 69, 71, 72, 74, 75, 76, 78, 79, 81, 82, 83, 85, 86, 88, 89, 90, 92, 93, 95, 96, 97, 99, 100, 102, 103, 104, 106, 107, 109, 110, 111, 112, 113, 114, 115, 118, 121, 123, 124, 126, 127, 128, 130, 131, 133, 134, 135, 137, 138, 140, 141, 142, 144, 145, 147, 148, 149, 152, 153, 154, 156, 157, 159, 160, 161, 163, 164, 166, 167, 168, 171, 172]
theorem leftF : ∀ (w : World) (os : OsState), (topFrom treeTable PySem.Challenge.pw_uq0020_01 (w.withFollow "special-get-raises" false) 4886 ⟨boot_heap w.params, Array.mk [], boot_drawn, boot_toks, os⟩).map (fun s => (openSeen view loose (importedModules PySem.Challenge.pw_uq0020_01.main.body) (fun s => xlAt view [] s && recOk (RowW.records (OpenRow.toRowW (OpenLaw.row PySem.Challenge.rw_uq0020_01))) s) true s, addrs.map s.heap.get?)) = some (openGood view loose, (hd.heap_1 (w.withFollow "special-get-raises" false).params).map fun p => some p.2) := by intro w os; unfold topFrom; rewrite [Fast.te14082659384304107361, Fast.te14364793385576792824, Fast.te4187177175401517315]; kernel_rfl
theorem leftT : ∀ (w : World) (os : OsState), (topFrom treeTable PySem.Challenge.pw_uq0020_01 (w.withFollow "special-get-raises" true) 4886 ⟨boot_heap w.params, Array.mk [], boot_drawn, boot_toks, os⟩).map (fun s => (openSeen view loose (importedModules PySem.Challenge.pw_uq0020_01.main.body) (fun s => xlAt view [] s && recOk (RowW.records (OpenRow.toRowW (OpenLaw.row PySem.Challenge.rw_uq0020_01))) s) true s, addrs.map s.heap.get?)) = some (openGood view loose, (hd.heap_1 (w.withFollow "special-get-raises" true).params).map fun p => some p.2) := by intro w os; unfold topFrom; rewrite [Fast.te14082659384304107361, Fast.te14364793385576792824, Fast.te4187177175401517315]; kernel_rfl
end Mine
end

noncomputable section -- L1a
open PySem PySem.W PySem.Calls PyProof.Rows
set_option maxRecDepth 100000
set_option autoImplicit false
namespace Mine

/-! values and objects of my own -/
inductive V where
  | none
  | bool (b : Bool)
  | int (i : Int)
  | str (s : List Nat)
  | ref (k : Nat)

inductive O where
  | list (xs : List V)
  | tup (xs : List V)
  | inst (xs : List V)
  | rng (a b : Int)

/-- there is one of a kind, and it goes on -/
inductive Got {α : Type} (A K : α → Prop) : Prop
  | mk (x : α) (_ : A x) (_ : K x)
inductive Got2 {α β : Type} (A K : α → β → Prop) : Prop
  | mk (x : α) (y : β) (_ : A x y) (_ : K x y)

noncomputable abbrev Rho := List (Addr × Addr)

noncomputable def Ext (ρ ρ' : Rho) : Prop := ∃ t, ρ' = ρ ++ t
theorem Ext.refl (ρ : Rho) : Ext ρ ρ := ⟨[], (List.append_nil _).symm⟩
theorem Ext.trans {a b c : Rho} (x : Ext a b) (y : Ext b c) : Ext a c := by
  obtain ⟨t, rfl⟩ := x; obtain ⟨u, rfl⟩ := y; exact ⟨t ++ u, List.append_assoc ..⟩
theorem Ext.get {ρ ρ' : Rho} (x : Ext ρ ρ') {k : Nat} {p : Addr × Addr} (h : ρ[k]? = some p) : ρ'[k]? = some p := by
  obtain ⟨t, rfl⟩ := x
  obtain ⟨hl, _⟩ := List.getElem?_eq_some_iff.mp h
  rw [List.getElem?_append_left hl]; exact h
theorem Ext.snoc (ρ : Rho) (p : Addr × Addr) : Ext ρ (ρ ++ [p]) := ⟨[p], rfl⟩

noncomputable def VR (ρ : Rho) : V → Value → Prop
  | .none, v => v = .none
  | .bool b, v => v = .bool b
  | .int i, v => ∃ t, v = .int i t
  | .str s, v => ∃ t, v = .str ⟨s.toArray⟩ t
  | .ref k, v => ∃ p, ρ[k]? = some p ∧ v = .ref p.1
theorem VR.ext {ρ ρ' : Rho} (x : Ext ρ ρ') : ∀ {v : V} {v' : Value}, VR ρ v v' → VR ρ' v v'
  | .none, _, h => h
  | .bool _, _, h => h
  | .int _, _, h => h
  | .str _, _, h => h
  | .ref _, _, ⟨p, a, b⟩ => ⟨p, x.get a, b⟩

inductive VRs (ρ : Rho) : List V → List Value → Prop
  | nil : VRs ρ [] []
  | cons {v v' vs vs'} : VR ρ v v' → VRs ρ vs vs' → VRs ρ (v :: vs) (v' :: vs')
namespace VRs
variable {ρ ρ' : Rho}
theorem ext (x : Ext ρ ρ') {vs : List V} {vs' : List Value} (h : VRs ρ vs vs') : VRs ρ' vs vs' := by
  induction h with
  | nil => exact .nil
  | cons a _ ih => exact .cons (a.ext x) ih
theorem length {vs : List V} {vs' : List Value} (h : VRs ρ vs vs') : vs.length = vs'.length := by
  induction h with
  | nil => rfl
  | cons _ _ ih => simp only [List.length_cons, ih]
theorem get {vs : List V} {vs' : List Value} (h : VRs ρ vs vs') : ∀ {i : Nat} {v : V}, vs[i]? = some v → ∃ v', vs'[i]? = some v' ∧ VR ρ v v' := by
  induction h with
  | nil => intro i v e; simp at e
  | cons a _ ih =>
    intro i v e
    cases i with
    | zero => simp only [List.getElem?_cons_zero, Option.some.injEq] at e; subst e; exact ⟨_, rfl, a⟩
    | succ i => simp only [List.getElem?_cons_succ] at e ⊢; exact ih e
theorem get' {vs : List V} {vs' : List Value} (h : VRs ρ vs vs') : ∀ {i : Nat} {v' : Value}, vs'[i]? = some v' → ∃ v, vs[i]? = some v ∧ VR ρ v v' := by
  induction h with
  | nil => intro i v e; simp at e
  | cons a _ ih =>
    intro i v e
    cases i with
    | zero => simp only [List.getElem?_cons_zero, Option.some.injEq] at e; subst e; exact ⟨_, rfl, a⟩
    | succ i => simp only [List.getElem?_cons_succ] at e ⊢; exact ih e
theorem append {a b : List V} {a' b' : List Value} (h : VRs ρ a a') (g : VRs ρ b b') : VRs ρ (a ++ b) (a' ++ b') := by
  induction h with
  | nil => exact g
  | cons x _ ih => exact .cons x ih
theorem one {v : V} {v' : Value} (h : VR ρ v v') : VRs ρ [v] [v'] := .cons h .nil
theorem take {a : List V} {a' : List Value} (h : VRs ρ a a') : ∀ n, VRs ρ (a.take n) (a'.take n) := by
  induction h with
  | nil => intro n; simp only [List.take_nil]; exact .nil
  | cons x _ ih => intro n; cases n with
    | zero => exact .nil
    | succ n => exact .cons x (ih n)
theorem drop {a : List V} {a' : List Value} (h : VRs ρ a a') : ∀ n, VRs ρ (a.drop n) (a'.drop n) := by
  induction h with
  | nil => intro n; simp only [List.drop_nil]; exact .nil
  | cons x y ih => intro n; cases n with
    | zero => exact .cons x y
    | succ n => exact ih n
theorem set {a : List V} {a' : List Value} (h : VRs ρ a a') {v : V} {v' : Value} (hv : VR ρ v v') : ∀ n, VRs ρ (a.set n v) (a'.set n v') := by
  induction h with
  | nil => intro n; exact .nil
  | cons x y ih => intro n; cases n with
    | zero => exact .cons hv y
    | succ n => exact .cons x (ih n)
theorem reverse {a : List V} {a' : List Value} (h : VRs ρ a a') : VRs ρ a.reverse a'.reverse := by
  induction h with
  | nil => exact .nil
  | cons x _ ih => simp only [List.reverse_cons]; exact ih.append (.one x)
end VRs

/-! the heap's relation -/
section
variable (C : Addr)

/-- the keys of a Whitespace's dict, in the order in which __init__ stores them -/
noncomputable def wsKeys : List Str := ["raw", "n", "nt", "norm", "is_simple"]

/-- a dict's entries, the keys `ks` in order, the values related -/
inductive EntR (P : Params) (ρ : Rho) : List Str → List V → List DictEntry → Prop
  | nil {ks} : EntR P ρ ks [] []
  | cons {k ks v v' vs es t} : VR ρ v v' → EntR P ρ ks vs es → EntR P ρ (k :: ks) (v :: vs) (⟨PyData.keyHash P k, .str k t, v'⟩ :: es)
theorem EntR.ext {P : Params} {ρ ρ' : Rho} (x : Ext ρ ρ') {ks vs es} (h : EntR P ρ ks vs es) : EntR P ρ' ks vs es := by
  induction h with
  | nil => exact .nil
  | cons a _ ih => exact .cons (a.ext x) ih

noncomputable def OAt (P : Params) (ρ : Rho) (h : Heap) (p : Addr × Addr) : O → Prop
  | .list xs => ∃ vs n, h.get? p.1 = some (listOf (List.toArray vs) n) ∧ VRs ρ xs vs
  | .tup xs => ∃ vs n, h.get? p.1 = some { cls := .type "tuple", data := .seq (List.toArray vs) n } ∧ VRs ρ xs vs
  | .inst xs => ∃ es n, h.get? p.1 = some (instObj C p.2) ∧ p.2 ≠ p.1 ∧ h.get? p.2 = some (dictOf es n) ∧ EntR P ρ wsKeys xs es
  | .rng a b => ∃ t u v, IsRange h p.1 a b 1 t u v
theorem OAt.ext {P : Params} {ρ ρ' : Rho} (x : Ext ρ ρ') {h : Heap} {p : Addr × Addr} : ∀ {o : O}, OAt C P ρ h p o → OAt C P ρ' h p o
  | .list _, ⟨vs, n, a, b⟩ => ⟨vs, n, a, b.ext x⟩
  | .tup _, ⟨vs, n, a, b⟩ => ⟨vs, n, a, b.ext x⟩
  | .inst _, ⟨es, n, a, c, d, b⟩ => ⟨es, n, a, c, d, b.ext x⟩
  | .rng _ _, h => h
theorem OAt.heap {P : Params} {ρ : Rho} {h h' : Heap} {p : Addr × Addr} (e1 : ∀ o, h.get? p.1 = some o → h'.get? p.1 = some o) (e2 : ∀ o, h.get? p.2 = some o → h'.get? p.2 = some o) : ∀ {o : O}, OAt C P ρ h p o → OAt C P ρ h' p o
  | .list _, ⟨vs, n, a, b⟩ => ⟨vs, n, e1 _ a, b⟩
  | .tup _, ⟨vs, n, a, b⟩ => ⟨vs, n, e1 _ a, b⟩
  | .inst _, ⟨es, n, a, c, d, b⟩ => ⟨es, n, e1 _ a, c, e2 _ d, b⟩
  | .rng _ _, ⟨t, u, v, a⟩ => ⟨t, u, v, e1 _ a⟩

structure HR (P : Params) (h₀ : Heap) (L : Addr) (ext : List (Addr × Obj)) (ρ : Rho) (hp : List O) (h : Heap) : Prop where
  len : ρ.length = hp.length
  objs : ∀ (k : Nat) (p : Addr × Addr) (o : O), ρ[k]? = some p → hp[k]? = some o → OAt C P ρ h p o
  own : ∀ (k : Nat) (p : Addr × Addr), ρ[k]? = some p → ∀ b, b = p.1 ∨ b = p.2 → b ≠ L ∧ h₀.get? b = none ∧ ∃ ob, h.get? b = some ob
  sep : ∀ (j k : Nat) (p q : Addr × Addr), j ≠ k → ρ[j]? = some p → ρ[k]? = some q → p.1 ≠ q.1 ∧ p.1 ≠ q.2 ∧ p.2 ≠ q.1 ∧ p.2 ≠ q.2
  ext : ∀ e ∈ ext, h.get? e.1 = some e.2 ∧ e.1 ≠ L ∧ h₀.get? e.1 = none ∧ ∀ (k : Nat) (p : Addr × Addr), ρ[k]? = some p → e.1 ≠ p.1 ∧ e.1 ≠ p.2
end

section
variable {C : Addr} {P : Params} {h₀ : Heap} {L : Addr} {ext : List (Addr × Obj)} {ρ : Rho} {hp : List O} {h h' : Heap}

theorem HR.at (H : HR C P h₀ L ext ρ hp h) {k : Nat} {o : O} (e : hp[k]? = some o) : ∃ p, ρ[k]? = some p ∧ OAt C P ρ h p o := by
  obtain ⟨hl, _⟩ := List.getElem?_eq_some_iff.mp e
  have : k < ρ.length := by rw [H.len]; exact hl
  exact ⟨ρ[k], List.getElem?_eq_getElem this, H.objs k _ o (List.getElem?_eq_getElem this) e⟩

/-- nothing of mine was touched -/
theorem HR.keep (H : HR C P h₀ L ext ρ hp h) (k : ∀ b o, b ≠ L → h.get? b = some o → h'.get? b = some o) : HR C P h₀ L ext ρ hp h' := by
  refine ⟨H.len, fun i p o e1 e2 => ?_, fun i p e b hb => ?_, H.sep, fun e he => ?_⟩
  · have a := H.own i p e1 p.1 (.inl rfl)
    have b := H.own i p e1 p.2 (.inr rfl)
    exact (H.objs i p o e1 e2).heap C (fun o e => k _ o a.1 e) (fun o e => k _ o b.1 e)
  · obtain ⟨x, y, ob, z⟩ := H.own i p e b hb
    exact ⟨x, y, ob, k _ _ x z⟩
  · obtain ⟨x, y, z⟩ := H.ext e he
    exact ⟨k _ _ y x, y, z⟩

/-- one new object of one address -/
theorem HR.push (H : HR C P h₀ L ext ρ hp h) (hL : L < h.objs.size) (h0 : ∀ b o, h₀.get? b = some o → h.get? b = some o) {ob : Obj} (hf : ob.isFreed = false) {o : O}
    (ho : OAt C P (ρ ++ [(h.objs.size, h.objs.size)]) (h.push ob) (h.objs.size, h.objs.size) o) : HR C P h₀ L ext (ρ ++ [(h.objs.size, h.objs.size)]) (hp ++ [o]) (h.push ob) := by
  have fresh : ∀ {b : Addr} {o : Obj}, h.get? b = some o → b ≠ h.objs.size := fun e => Nat.ne_of_lt (Heap.lt_size e)
  have hx : Ext ρ (ρ ++ [(h.objs.size, h.objs.size)]) := Ext.snoc _ _
  have key : ∀ (k : Nat) (p : Addr × Addr), (ρ ++ [(h.objs.size, h.objs.size)])[k]? = some p → ρ[k]? = some p ∨ (k = ρ.length ∧ p = (h.objs.size, h.objs.size)) := by
    intro k p e
    rcases Nat.lt_trichotomy k ρ.length with q | q | q
    · rw [List.getElem?_append_left q] at e; exact .inl e
    · subst q; rw [List.getElem?_concat_length] at e; exact .inr ⟨rfl, (Option.some.inj e).symm⟩
    · rw [List.getElem?_eq_none (by simp; lia)] at e; cases e
  refine ⟨by simp [H.len], fun k p o' e1 e2 => ?_, fun k p e b hb => ?_, fun j k p q ne e1 e2 => ?_, fun e he => ?_⟩
  · rcases key k p e1 with q | ⟨rfl, rfl⟩
    · have hk : k < hp.length := by rw [← H.len]; exact (List.getElem?_eq_some_iff.mp q).1
      rw [List.getElem?_append_left hk] at e2
      exact ((H.objs k p o' q e2).ext C hx).heap C (fun _ e => Heap.get?_push_of_some _ e) (fun _ e => Heap.get?_push_of_some _ e)
    · rw [H.len, List.getElem?_concat_length] at e2
      cases e2
      exact ho
  · rcases key k p e with q | ⟨rfl, rfl⟩
    · obtain ⟨x, y, ob, z⟩ := H.own k p q b hb
      exact ⟨x, y, ob, Heap.get?_push_of_some _ z⟩
    · have : b = h.objs.size := by rcases hb with e | e <;> exact e
      subst this
      refine ⟨Nat.ne_of_gt hL, ?_, ob, Heap.get?_push_size _ hf⟩
      cases q : h₀.get? h.objs.size with
      | none => rfl
      | some o' => exact absurd (Heap.lt_size (h0 _ _ q)) (Nat.lt_irrefl _)
  · rcases key j p e1 with a | ⟨rfl, rfl⟩
    · obtain ⟨_, _, o1, z1⟩ := H.own j p a p.1 (.inl rfl)
      obtain ⟨_, _, o2, z2⟩ := H.own j p a p.2 (.inr rfl)
      rcases key k q e2 with b | ⟨rfl, rfl⟩
      · exact H.sep j k p q ne a b
      · exact ⟨fresh z1, fresh z1, fresh z2, fresh z2⟩
    · rcases key k q e2 with b | ⟨rfl, rfl⟩
      · obtain ⟨_, _, o1, z1⟩ := H.own k q b q.1 (.inl rfl)
        obtain ⟨_, _, o2, z2⟩ := H.own k q b q.2 (.inr rfl)
        exact ⟨(fresh z1).symm, (fresh z2).symm, (fresh z1).symm, (fresh z2).symm⟩
      · exact absurd rfl ne
  · obtain ⟨x, y, z, u⟩ := H.ext e he
    refine ⟨Heap.get?_push_of_some _ x, y, z, fun k p e' => ?_⟩
    rcases key k p e' with a | ⟨rfl, rfl⟩
    · exact u k p a
    · exact ⟨fresh x, fresh x⟩

/-- one object of one address stored anew -/
theorem HR.upd (H : HR C P h₀ L ext ρ hp h) {k : Nat} {p : Addr × Addr} (hk : ρ[k]? = some p) {b : Addr} (hb : b = p.1 ∨ b = p.2) {f : Obj → Obj} {o : O}
    (hf : ∀ ob, h.get? b = some ob → (f ob).isFreed = false) (ho : OAt C P ρ (h.update b f) p o) : HR C P h₀ L ext ρ (hp.set k o) (h.update b f) := by
  have other : ∀ {c : Addr}, c ≠ b → ∀ o, h.get? c = some o → (h.update b f).get? c = some o := fun ne o e => by
    rw [Heap.get?_update_other h f (Ne.symm ne)]; exact e
  refine ⟨by simp [H.len], fun i q o' e1 e2 => ?_, fun i q e c hc => ?_, H.sep, fun e he => ?_⟩
  · by_cases hi : i = k
    · subst hi
      rw [hk] at e1; cases e1
      have : o' = o := by
        have hl : i < hp.length := by rw [← H.len]; exact (List.getElem?_eq_some_iff.mp hk).1
        rw [List.getElem?_set_self hl] at e2; exact (Option.some.inj e2).symm
      subst this; exact ho
    · rw [List.getElem?_set_ne (fun e => hi e.symm)] at e2
      obtain ⟨s1, s2, s3, s4⟩ := H.sep i k q p hi e1 hk
      refine (H.objs i q o' e1 e2).heap C (other ?_) (other ?_)
      · rcases hb with rfl | rfl
        · exact s1
        · exact s2
      · rcases hb with rfl | rfl
        · exact s3
        · exact s4
  · obtain ⟨x, y, ob, z⟩ := H.own i q e c hc
    refine ⟨x, y, ?_⟩
    by_cases hcb : c = b
    · subst hcb; exact ⟨_, Heap.get?_update_self f z (hf _ z)⟩
    · exact ⟨ob, other hcb _ z⟩
  · obtain ⟨x, y, z, u⟩ := H.ext e he
    refine ⟨other ?_ _ x, y, z, u⟩
    obtain ⟨u1, u2⟩ := u k p hk
    rcases hb with rfl | rfl
    · exact u1
    · exact u2

theorem HR.len_lt (H : HR C P h₀ L ext ρ hp h) {k : Nat} (hk : k < hp.length) : ∃ p, ρ[k]? = some p :=
  ⟨ρ[k]'(by rw [H.len]; exact hk), List.getElem?_eq_getElem _⟩

/-- the ledger of all that is mine -/
noncomputable def led (h : Heap) (ρ : Rho) (ext : List (Addr × Obj)) : List (Addr × Obj) :=
  (ρ.flatMap fun p => [p.1, p.2]).filterMap (fun b => (h.get? b).map fun o => (b, o)) ++ ext
theorem mem_led {b : Addr} {o : Obj} {k : Nat} {p : Addr × Addr} (hk : ρ[k]? = some p) (hb : b = p.1 ∨ b = p.2) (ho : h.get? b = some o) : (b, o) ∈ led h ρ ext := by
  refine List.mem_append_left _ (List.mem_filterMap.mpr ⟨b, List.mem_flatMap.mpr ⟨p, List.mem_of_getElem? hk, ?_⟩, by rw [ho]; rfl⟩)
  rcases hb with rfl | rfl
  · exact .head _
  · exact .tail _ (.head _)
theorem HR.news (H : HR C P h₀ L ext ρ hp h) : News h₀ L h (led h ρ ext) := by
  intro e he
  rcases List.mem_append.mp he with he | he
  · obtain ⟨b, hb, hm⟩ := List.mem_filterMap.mp he
    obtain ⟨p, hp, hb⟩ := List.mem_flatMap.mp hb
    obtain ⟨k, hk⟩ := List.mem_iff_getElem?.mp hp
    have hb' : b = p.1 ∨ b = p.2 := by
      rcases List.mem_cons.mp hb with h | h
      · exact .inl h
      · exact .inr (List.mem_singleton.mp h)
    obtain ⟨x, y, ob, z⟩ := H.own k p hk b hb'
    rw [z] at hm
    cases hm
    exact ⟨z, x, y⟩
  · obtain ⟨x, y, z, _⟩ := H.ext e he
    exact ⟨x, y, z⟩
/-- what keeps the ledger keeps the relation -/
theorem HR.ofLed (H : HR C P h₀ L ext ρ hp h) (N : News h₀ L h' (led h ρ ext)) : HR C P h₀ L ext ρ hp h' := by
  have k : ∀ (k : Nat) (p : Addr × Addr) (b : Addr) (o : Obj), ρ[k]? = some p → b = p.1 ∨ b = p.2 → h.get? b = some o → h'.get? b = some o := fun k p b o hk hb ho => (N _ (mem_led hk hb ho)).1
  refine ⟨H.len, fun i p o e1 e2 => (H.objs i p o e1 e2).heap C (fun o e => k i p _ o e1 (.inl rfl) e) (fun o e => k i p _ o e1 (.inr rfl) e), fun i p e b hb => ?_, H.sep, fun e he => ?_⟩
  · obtain ⟨x, y, ob, z⟩ := H.own i p e b hb
    exact ⟨x, y, ob, k i p b ob e hb z⟩
  · obtain ⟨x, y, z, u⟩ := H.ext e he
    have q := N e (List.mem_append_right _ he)
    exact ⟨q.1, y, z, u⟩
/-- a new object beside a kept ledger -/
theorem HR.addAt (H : HR C P h₀ L ext ρ hp h) (N : News h₀ L h' (led h ρ ext)) {c d : Addr} (ne : ∀ e ∈ led h ρ ext, e.1 ≠ c ∧ e.1 ≠ d)
    (nc : ∃ ob, h'.get? c = some ob ∧ c ≠ L ∧ h₀.get? c = none) (nd : ∃ ob, h'.get? d = some ob ∧ d ≠ L ∧ h₀.get? d = none) {o : O}
    (ho : OAt C P (ρ ++ [(c, d)]) h' (c, d) o) : HR C P h₀ L ext (ρ ++ [(c, d)]) (hp ++ [o]) h' := by
  have H' := H.ofLed N
  have fresh : ∀ {k : Nat} {p : Addr × Addr} {b : Addr} {o : Obj}, ρ[k]? = some p → b = p.1 ∨ b = p.2 → h.get? b = some o → b ≠ c ∧ b ≠ d := fun hk hb ho => ne _ (mem_led hk hb ho)
  have hx : Ext ρ (ρ ++ [(c, d)]) := Ext.snoc _ _
  have key : ∀ (k : Nat) (p : Addr × Addr), (ρ ++ [(c, d)])[k]? = some p → ρ[k]? = some p ∨ (k = ρ.length ∧ p = (c, d)) := by
    intro k p e
    rcases Nat.lt_trichotomy k ρ.length with q | q | q
    · rw [List.getElem?_append_left q] at e; exact .inl e
    · subst q; rw [List.getElem?_concat_length] at e; exact .inr ⟨rfl, (Option.some.inj e).symm⟩
    · rw [List.getElem?_eq_none (by simp; lia)] at e; cases e
  refine ⟨by simp [H.len], fun k p o' e1 e2 => ?_, fun k p e b hb => ?_, fun j k p q ne e1 e2 => ?_, fun e he => ?_⟩
  · rcases key k p e1 with q | ⟨rfl, rfl⟩
    · have hk : k < hp.length := by rw [← H.len]; exact (List.getElem?_eq_some_iff.mp q).1
      rw [List.getElem?_append_left hk] at e2
      exact (H'.objs k p o' q e2).ext C hx
    · rw [H.len, List.getElem?_concat_length] at e2
      cases e2
      exact ho
  · rcases key k p e with q | ⟨rfl, rfl⟩
    · exact H'.own k p q b hb
    · rcases hb with rfl | rfl
      · obtain ⟨ob, x, y, z⟩ := nc; exact ⟨y, z, ob, x⟩
      · obtain ⟨ob, x, y, z⟩ := nd; exact ⟨y, z, ob, x⟩
  · rcases key j p e1 with a | ⟨rfl, rfl⟩
    · obtain ⟨_, _, o1, z1⟩ := H.own j p a p.1 (.inl rfl)
      obtain ⟨_, _, o2, z2⟩ := H.own j p a p.2 (.inr rfl)
      rcases key k q e2 with b | ⟨rfl, rfl⟩
      · exact H.sep j k p q ne a b
      · exact ⟨(fresh a (.inl rfl) z1).1, (fresh a (.inl rfl) z1).2, (fresh a (.inr rfl) z2).1, (fresh a (.inr rfl) z2).2⟩
    · rcases key k q e2 with b | ⟨rfl, rfl⟩
      · obtain ⟨_, _, o1, z1⟩ := H.own k q b q.1 (.inl rfl)
        obtain ⟨_, _, o2, z2⟩ := H.own k q b q.2 (.inr rfl)
        exact ⟨(fresh b (.inl rfl) z1).1.symm, (fresh b (.inr rfl) z2).1.symm, (fresh b (.inl rfl) z1).2.symm, (fresh b (.inr rfl) z2).2.symm⟩
      · exact absurd rfl ne
  · obtain ⟨x, y, z, u⟩ := H.ext e he
    obtain ⟨x', _⟩ := H'.ext e he
    refine ⟨x', y, z, fun k p e' => ?_⟩
    rcases key k p e' with a | ⟨rfl, rfl⟩
    · exact u k p a
    · exact ne e (List.mem_append_right _ he)
theorem led_fresh (H : HR C P h₀ L ext ρ hp h) {c : Addr} (hc : h.get? c = none) : ∀ e ∈ led h ρ ext, e.1 ≠ c ∧ e.1 ≠ c := fun e he => by
  have := (H.news e he).1
  exact ⟨(fun q => by rw [q, hc] at this; cases this), (fun q => by rw [q, hc] at this; cases this)⟩

/-! a dict's entries -/
theorem EntR.get {P : Params} {ρ : Rho} : ∀ {ks : List Str} {vs : List V} {es : List DictEntry}, EntR P ρ ks vs es → ks.Nodup → ∀ {i : Nat} {k : Str} {v : V}, ks[i]? = some k → vs[i]? = some v → ∃ v', getL k es = some (some v') ∧ VR ρ v v'
  | _, _, _, .nil, _, _, _, _, _, h => by simp at h
  | k₀ :: ks, v₀ :: vs, _, .cons (v' := v₀') (es := es) (t := t) a r, hn, i, k, v, hk, hv => by
    obtain ⟨n1, n2⟩ := List.nodup_cons.mp hn
    cases i with
    | zero =>
      simp only [List.getElem?_cons_zero, Option.some.injEq] at hk hv
      subst hk hv
      refine ⟨v₀', ?_, a⟩
      unfold getL
      rw [List.find?_cons_of_pos (by simp [Value.isStr])]
    | succ i =>
      simp only [List.getElem?_cons_succ] at hk hv
      obtain ⟨v', g, r'⟩ := EntR.get r n2 hk hv
      refine ⟨v', ?_, r'⟩
      have ne : k₀ ≠ k := fun e => n1 (e ▸ List.mem_of_getElem? hk)
      unfold getL at g ⊢
      rw [List.find?_cons_of_neg (by simp [Value.isStr, ne])]
      split at g
      · exact g
      · split at g <;> cases g
theorem EntR.none {P : Params} {ρ : Rho} {k : Str} : ∀ {ks : List Str} {vs : List V} {es : List DictEntry}, EntR P ρ ks vs es → k ∉ ks.take vs.length → getL k es = some .none ∧ es.any (·.key.isStr k) = false
  | _, _, _, .nil, _ => ⟨rfl, rfl⟩
  | k₀ :: ks, v₀ :: vs, _, .cons (v' := v₀') (es := es) (t := t) a r, h => by
    have h1 : k ∉ ks.take vs.length := fun q => h (by simp [q])
    have ne : k₀ ≠ k := fun e => h (by simp [e])
    obtain ⟨i1, i2⟩ := EntR.none r h1
    have e0 : (Value.str k₀ t).isStr k = false := by simp [Value.isStr, ne]
    refine ⟨?_, by rw [List.any_cons, i2]; simp [e0]⟩
    unfold getL at i1 ⊢
    rw [List.find?_cons_of_neg (by simp [e0])]
    split at i1
    · cases i1
    · rw [List.any_cons]
      have : (⟨PyData.keyHash P k₀, .str k₀ t, v₀'⟩ : DictEntry).refKey = false := rfl
      rw [this, Bool.false_or]
      exact i1
theorem EntR.snoc {P : Params} {ρ : Rho} {k : Str} {v : V} {v' : Value} {t : Tok} (hv : VR ρ v v') : ∀ {ks : List Str} {vs : List V} {es : List DictEntry}, EntR P ρ ks vs es → ks[vs.length]? = some k → EntR P ρ ks (vs ++ [v]) (es ++ [⟨PyData.keyHash P k, .str k t, v'⟩])
  | ks, _, _, .nil, h => by
    cases ks with
    | nil => simp at h
    | cons a r => simp only [List.length_nil, List.getElem?_cons_zero, Option.some.injEq] at h; subst h; exact .cons hv .nil
  | _ :: ks, _ :: vs, _, .cons a r, h => by
    simp only [List.length_cons, List.getElem?_cons_succ] at h
    exact .cons a (EntR.snoc hv r h)
theorem putL_new {name : Str} {hsh : Int} {key v : Value} : ∀ {es : List DictEntry}, es.any (·.key.isStr name) = false → putL name hsh key v es = es ++ [⟨hsh, key, v⟩]
  | [], _ => rfl
  | e :: r, h => by
    rw [List.any_cons, Bool.or_eq_false_iff] at h
    unfold putL
    rw [if_neg (by rw [h.1]; exact Bool.false_ne_true), putL_new h.2]
    rfl
theorem EntR.length {P : Params} {ρ : Rho} {ks : List Str} {vs : List V} {es : List DictEntry} (h : EntR P ρ ks vs es) : vs.length = es.length ∧ vs.length ≤ ks.length := by
  induction h with
  | nil => exact ⟨rfl, Nat.zero_le _⟩
  | cons _ _ ih => simp only [List.length_cons]; lia
end

end Mine
end

noncomputable section -- L1b
open PySem PySem.W PySem.Calls PyProof.Rows
set_option maxRecDepth 100000
set_option autoImplicit false
namespace Mine

structure Wd where
  prog : Program
  w : World
  K : Frag
  p : Program
  loose : List Str
  mean : ExcName → Option Value
  mg : Str → Option Value
  mb : Str → Option Value
  C : Addr
noncomputable abbrev Wd.M (W : Wd) : Model := model W.prog W.w

structure Fx where
  A₀ : Around
  base : Heap
  outer : List Env
  h₀ : Heap
  L : Addr
  cn : Str
  cs : Scope
  a : Addr
  ccd : Value
  names : List Str
  os : OsState
  cl : List (Str × Addr) := []
/-- what stands beside my heap: objects and generators that nothing here touches -/
structure Gx where
  ext : List (Addr × Obj)
  gx : List (Nat × GenState)
noncomputable abbrev Fx.env (X : Fx) : Env := envX X.cn X.cs X.L X.a X.ccd X.cl
noncomputable abbrev Fx.A (X : Fx) : Around := X.A₀.deeper X.env

structure Fx.Ok (W : Wd) (X : Fx) (d : Nat) : Prop where
  B : 0 < d → Below X.A₀ X.base X.outer X.h₀
  K : W.K.In X.h₀
  T : Top W.p W.loose W.mean W.mg W.mb X.h₀
  kind : X.cs.kind = .function
  depth : X.A.depth + d < recursionLimit
  units : X.A.units + 8 * d + 100 < cLine
  handled : X.A.handled = none
  names : ∀ (i : Nat) (x : Str), X.names[i]? = some x → X.cs.names.lookup x = some .local ∧ (x == ("__debug__" : Str)) = false
  nodup : X.names.Nodup
  low : X.h₀.objs.size ≤ X.L

noncomputable abbrev Loc := List (Option V)

noncomputable def LR (names : List Str) (ρ : Rho) (l : Loc) (m : Str → Option Value) : Prop :=
  ∀ (i : Nat) (x : Str) (v : V), names[i]? = some x → l[i]? = some (some v) → ∃ v', m x = some v' ∧ VR ρ v v'
theorem LR.ext {names : List Str} {ρ ρ' : Rho} {l : Loc} {m : Str → Option Value} (h : LR names ρ l m) (x : Ext ρ ρ') : LR names ρ' l m :=
  fun i y v e1 e2 => let ⟨v', a, b⟩ := h i y v e1 e2; ⟨v', a, b.ext x⟩

inductive FrL (X : Fx) (ρ : Rho) (l : Loc) (h : Heap) : Prop
  | mk (m : Str → Option Value) (_ : Fr X.h₀ X.L h m) (_ : LR X.names ρ l m)
inductive FrN (X : Fx) (g : Gx) (ρ : Rho) (l : Loc) (h : Heap) : Prop
  | mk (m : Str → Option Value) (_ : Fr X.h₀ X.L h m) (_ : LR X.names ρ l m) (_ : News X.h₀ X.L h (led h ρ g.ext))
inductive ListR (ρ : Rho) (h : Heap) (k : Nat) (xs : List V) (v' : Value) : Prop
  | mk (p : Addr × Addr) (vs : List Value) (n : Nat) (_ : ρ[k]? = some p) (_ : v' = .ref p.1) (_ : h.get? p.1 = some (listOf (List.toArray vs) n)) (_ : VRs ρ xs vs)
inductive TupR (ρ : Rho) (h : Heap) (k : Nat) (xs : List V) (v' : Value) : Prop
  | mk (p : Addr × Addr) (vs : List Value) (n : Nat) (_ : ρ[k]? = some p) (_ : v' = .ref p.1) (_ : h.get? p.1 = some { cls := .type "tuple", data := .seq (List.toArray vs) n }) (_ : VRs ρ xs vs)
structure Inv (W : Wd) (X : Fx) (g : Gx) (ρ : Rho) (l : Loc) (hp : List O) (s : Shared) : Prop where
  fr : FrL X ρ l s.heap
  hr : HR W.C W.w.params X.h₀ X.L g.ext ρ hp s.heap
  os : s.os = X.os
  gens : AllBare s.gens
  gx : ∀ e ∈ g.gx, s.gens[e.1]? = some e.2

/-- the heap and the tokens of a state, anew -/
noncomputable abbrev Anew (s : Shared) (h : Heap) (t : Nat) : Shared := { s with heap := h, toks := t }

section
variable {W : Wd} {X : Fx} {g : Gx} {ρ : Rho} {l : Loc} {hp : List O} {s : Shared}
theorem Inv.toks (I : Inv W X g ρ l hp s) (t : Nat) : Inv W X g ρ l hp { s with toks := t } := ⟨I.fr, I.hr, I.os, I.gens, I.gx⟩
/-- a new heap that keeps what was -/
theorem Inv.keep (I : Inv W X g ρ l hp s) {h' : Heap} (k : ∀ b o, s.heap.get? b = some o → h'.get? b = some o) (t : Nat) : Inv W X g ρ l hp { s with heap := h', toks := t } := by
  obtain ⟨m, F, lr⟩ := I.fr
  exact ⟨⟨m, ⟨F.ns.keeps k, fun b o e => k b o (F.keep b o e), F.above⟩, lr⟩, I.hr.keep fun b o _ e => k b o e, I.os, I.gens, I.gx⟩
theorem Inv.Llt (I : Inv W X g ρ l hp s) : X.L < s.heap.objs.size := by
  obtain ⟨m, F, _⟩ := I.fr
  obtain ⟨o, _, _, ho, _⟩ := F.ns
  exact Heap.lt_size ho
theorem Inv.old (I : Inv W X g ρ l hp s) : ∀ b o, X.h₀.get? b = some o → s.heap.get? b = some o := by
  obtain ⟨m, F, _⟩ := I.fr
  exact F.keep
/-- a new object on the heap, with its own name -/
theorem Inv.push (I : Inv W X g ρ l hp s) {ob : Obj} (hf : ob.isFreed = false) {o : O} (t : Nat)
    (ho : OAt W.C W.w.params (ρ ++ [(s.heap.objs.size, s.heap.objs.size)]) (s.heap.push ob) (s.heap.objs.size, s.heap.objs.size) o) :
    Inv W X g (ρ ++ [(s.heap.objs.size, s.heap.objs.size)]) l (hp ++ [o]) { s with heap := s.heap.push ob, toks := t } := by
  obtain ⟨m, F, lr⟩ := I.fr
  exact ⟨⟨m, F.push ob, lr.ext (Ext.snoc _ _)⟩, I.hr.push I.Llt I.old hf ho, I.os, I.gens, I.gx⟩
theorem Inv.ref_new (I : Inv W X g ρ l hp s) (a : Addr × Addr) : VR (ρ ++ [a]) (.ref hp.length) (.ref a.1) := by
  refine ⟨a, ?_, rfl⟩
  rw [← I.hr.len, List.getElem?_concat_length]
/-- an object stored anew -/
theorem Inv.upd (I : Inv W X g ρ l hp s) {k : Nat} {p : Addr × Addr} (hk : ρ[k]? = some p) {b : Addr} (hb : b = p.1 ∨ b = p.2) {f : Obj → Obj} {o : O}
    (hf : ∀ ob, s.heap.get? b = some ob → (f ob).isFreed = false) (ho : OAt W.C W.w.params ρ (s.heap.update b f) p o) (t : Nat) :
    Inv W X g ρ l (hp.set k o) { s with heap := s.heap.update b f, toks := t } := by
  obtain ⟨m, F, lr⟩ := I.fr
  obtain ⟨nL, n0, ob, hob⟩ := I.hr.own k p hk b hb
  have other : ∀ c, c ≠ b → ∀ o, s.heap.get? c = some o → (s.heap.update b f).get? c = some o := fun c ne o e => by
    rw [Heap.get?_update_other s.heap f (Ne.symm ne)]; exact e
  obtain ⟨oL, es, ep, hL, r⟩ := F.ns
  exact ⟨⟨m, ⟨⟨oL, es, ep, other _ (Ne.symm nL) _ hL, r⟩, fun c o e => other c (fun q => by subst q; rw [n0] at e; cases e) o (F.keep c o e), F.above⟩, lr⟩, I.hr.upd hk hb hf ho, I.os, I.gens, I.gx⟩
end

/-! the meanings: a tree refines a function in continuation style -/
noncomputable abbrev EV := Loc → List O → (V → List O → Prop) → Prop
noncomputable abbrev BV := Loc → List O → (Bool → List O → Prop) → Prop
noncomputable abbrev EVs := Loc → List O → (List V → List O → Prop) → Prop
inductive Out where
  | next | brk | cont
  | ret (v : V)
noncomputable abbrev ST := Loc → List O → (Out → Loc → List O → Prop) → Prop

inductive PostE (W : Wd) (X : Fx) (g : Gx) (ρ : Rho) (l : Loc) (P : V → List O → Prop) (v' : Value) (s' : Shared) : Prop
  | mk (ρ' : Rho) (v : V) (h' : List O) (_ : Ext ρ ρ') (_ : VR ρ' v v') (_ : Inv W X g ρ' l h' s') (_ : P v h')
inductive PostB (W : Wd) (X : Fx) (g : Gx) (ρ : Rho) (l : Loc) (P : Bool → List O → Prop) (b : Bool) (s' : Shared) : Prop
  | mk (ρ' : Rho) (h' : List O) (_ : Ext ρ ρ') (_ : Inv W X g ρ' l h' s') (_ : P b h')
inductive PostEs (W : Wd) (X : Fx) (g : Gx) (ρ : Rho) (l : Loc) (P : List V → List O → Prop) (vs' : List Value) (s' : Shared) : Prop
  | mk (ρ' : Rho) (vs : List V) (h' : List O) (_ : Ext ρ ρ') (_ : VRs ρ' vs vs') (_ : Inv W X g ρ' l h' s') (_ : P vs h')
noncomputable def OutR (ρ : Rho) : Out → Flow → Prop
  | .next, f => f = .next
  | .brk, f => f = .brk
  | .cont, f => f = .cont
  | .ret v, f => ∃ v', f = .ret v' ∧ VR ρ v v'
inductive PostS (W : Wd) (X : Fx) (g : Gx) (ρ : Rho) (P : Out → Loc → List O → Prop) (f : Flow) (s' : Shared) : Prop
  | mk (ρ' : Rho) (o : Out) (l' : Loc) (h' : List O) (_ : Ext ρ ρ') (_ : OutR ρ' o f) (_ : Inv W X g ρ' l' h' s') (_ : P o l' h')

noncomputable def SE (W : Wd) (X : Fx) (t : Sem Value) (ev : EV) : Prop := ∀ (g : Gx) (E : Value → Shared → Prop) (ρ : Rho) (l : Loc) (hp : List O) (s : Shared) (P : V → List O → Prop),
  Inv W X g ρ l hp s → ev l hp P → wpAny W.M X.A t (PostE W X g ρ l P) E s
noncomputable def SB (W : Wd) (X : Fx) (t : Sem Bool) (ev : BV) : Prop := ∀ (g : Gx) (E : Value → Shared → Prop) (ρ : Rho) (l : Loc) (hp : List O) (s : Shared) (P : Bool → List O → Prop),
  Inv W X g ρ l hp s → ev l hp P → wpAny W.M X.A t (PostB W X g ρ l P) E s
noncomputable def SEs (W : Wd) (X : Fx) (t : Sem (List Value)) (ev : EVs) : Prop := ∀ (g : Gx) (E : Value → Shared → Prop) (ρ : Rho) (l : Loc) (hp : List O) (s : Shared) (P : List V → List O → Prop),
  Inv W X g ρ l hp s → ev l hp P → wpAny W.M X.A t (PostEs W X g ρ l P) E s
noncomputable def SS (W : Wd) (X : Fx) (t : Sem Flow) (ev : ST) : Prop := ∀ (g : Gx) (E : Value → Shared → Prop) (ρ : Rho) (l : Loc) (hp : List O) (s : Shared) (P : Out → Loc → List O → Prop),
  Inv W X g ρ l hp s → ev l hp P → wpAny W.M X.A t (PostS W X g ρ P) E s

/-- a test: a tree for its truth -/
noncomputable abbrev ST? (W : Wd) (X : Fx) (e : PySem.Expr) (ev : BV) : Prop := SB W X (isTrue e X.env (eval e X.env)) ev

section
variable {W : Wd} {X : Fx} {g : Gx} {ρ : Rho} {l : Loc} {hp : List O} {s : Shared} {P : V → List O → Prop}
/-- a value at hand -/
theorem PostE.here (I : Inv W X g ρ l hp s) {v : V} {v' : Value} (hv : VR ρ v v') (h : P v hp) (t : Nat) : PostE W X g ρ l P v' { s with toks := t } := ⟨ρ, v, hp, Ext.refl _, hv, I.toks t, h⟩
theorem PostE.here0 (I : Inv W X g ρ l hp s) {v : V} {v' : Value} (hv : VR ρ v v') (h : P v hp) : PostE W X g ρ l P v' s := ⟨ρ, v, hp, Ext.refl _, hv, I, h⟩
theorem PostE.later {ρ' : Rho} (x : Ext ρ ρ') {v' : Value} {s' : Shared} (h : PostE W X g ρ' l P v' s') : PostE W X g ρ l P v' s' := by
  obtain ⟨r, v, h', y, a, b, c⟩ := h
  exact ⟨r, v, h', x.trans y, a, b, c⟩
theorem PostB.later {ρ' : Rho} (x : Ext ρ ρ') {P : Bool → List O → Prop} {b : Bool} {s' : Shared} (h : PostB W X g ρ' l P b s') : PostB W X g ρ l P b s' := by
  obtain ⟨r, h', y, a, c⟩ := h
  exact ⟨r, h', x.trans y, a, c⟩
theorem PostEs.later {ρ' : Rho} (x : Ext ρ ρ') {P : List V → List O → Prop} {v' : List Value} {s' : Shared} (h : PostEs W X g ρ' l P v' s') : PostEs W X g ρ l P v' s' := by
  obtain ⟨r, v, h', y, a, b, c⟩ := h
  exact ⟨r, v, h', x.trans y, a, b, c⟩
theorem PostS.later {ρ' : Rho} (x : Ext ρ ρ') {P : Out → Loc → List O → Prop} {f : Flow} {s' : Shared} (h : PostS W X g ρ' P f s') : PostS W X g ρ P f s' := by
  obtain ⟨r, o, l', h', y, a, b, c⟩ := h
  exact ⟨r, o, l', h', x.trans y, a, b, c⟩
end

theorem VR.int {ρ : Rho} (i : Int) (t : Tok) : VR ρ (.int i) (.int i t) := ⟨t, rfl⟩
theorem VR.str {ρ : Rho} (x : List Nat) (t : Tok) : VR ρ (.str x) (.str ⟨x.toArray⟩ t) := ⟨t, rfl⟩
theorem VR.bool {ρ : Rho} (b : Bool) : VR ρ (.bool b) (.bool b) := rfl
theorem VR.none {ρ : Rho} : VR ρ .none .none := rfl
/-! expressions without a state of their own -/
noncomputable def eInt (i : Int) : EV := fun _ h P => P (.int i) h
noncomputable def eStr (x : List Nat) : EV := fun _ h P => P (.str x) h
noncomputable def eNone : EV := fun _ h P => P .none h
noncomputable def eBool (b : Bool) : EV := fun _ h P => P (.bool b) h
noncomputable def eNm (i : Nat) : EV := fun l h P => Got (fun v => l[i]? = some (some v)) fun v => P v h

section
variable {W : Wd} {X : Fx}
theorem se_int (i : Int) (k : Nat) (pos : Pos) : SE W X (eval (.Constant (.int i) k pos) X.env) (eInt i) :=
  fun _ _ _ _ _ _ _ I h => wpAny_Constant_int (PostE.here I (VR.int _ _) h _)
theorem se_str {x : Str} {y : List Nat} (e : x = ⟨y.toArray⟩) (k : Nat) (pos : Pos) : SE W X (eval (.Constant (.str x) k pos) X.env) (eStr y) := by
  intro g E ρ l hp s P I h
  subst e
  exact fun _ _ _ => PostE.here I (VR.str _ _) h _
theorem se_none (k : Nat) (pos : Pos) : SE W X (eval (.Constant .none k pos) X.env) eNone := fun _ _ _ _ _ _ _ I h => Constant_none (PostE.here0 I VR.none h)
theorem se_bool (b : Bool) (k : Nat) (pos : Pos) : SE W X (eval (.Constant (.bool b) k pos) X.env) (eBool b) := fun _ _ _ _ _ _ _ I h => Constant_bool (PostE.here0 I (VR.bool b) h)
theorem se_nm {d : Nat} (O : X.Ok W d) {x : Str} (pos : Pos) (i : Nat) (hi : X.names[i]? = some x) : SE W X (eval (.Name x pos) X.env) (eNm i) := by
  rintro g E ρ l hp s P I ⟨v, hv, h⟩
  obtain ⟨m, F, lr⟩ := I.fr
  obtain ⟨v', hm, hr⟩ := lr i x v hi hv
  exact nameX_L F hm (PostE.here0 I hr h) O.kind (O.names i x hi).1 (O.names i x hi).2
end


section
variable {W : Wd} {X : Fx} {g : Gx} {ρ : Rho} {l : Loc} {hp : List O} {s : Shared}
theorem Inv.frame (I : Inv W X g ρ l hp s) : FrN X g ρ l s.heap := by
  obtain ⟨m, F, lr⟩ := I.fr
  exact ⟨m, F, lr, I.hr.news⟩
/-- what keeps the frame and the ledger keeps the relation -/
theorem Inv.ofLed (I : Inv W X g ρ l hp s) {m : Str → Option Value} (lr : LR X.names ρ l m) {h' : Heap} (F : Fr X.h₀ X.L h' m) (N : News X.h₀ X.L h' (led s.heap ρ g.ext)) (t : Nat) :
    Inv W X g ρ l hp { s with heap := h', toks := t } := ⟨⟨m, F, lr⟩, I.hr.ofLed N, I.os, I.gens, I.gx⟩
/-- a new object of one address beside the kept ledger -/
theorem Inv.addAt (I : Inv W X g ρ l hp s) {m : Str → Option Value} (lr : LR X.names ρ l m) {h' : Heap} {c : Addr} {ob : Obj} (F : Fr X.h₀ X.L h' m) (N : News X.h₀ X.L h' ((c, ob) :: led s.heap ρ g.ext)) (hc : s.heap.get? c = none) {o : O}
    (ho : OAt W.C W.w.params (ρ ++ [(c, c)]) h' (c, c) o) (t : Nat) : Inv W X g (ρ ++ [(c, c)]) l (hp ++ [o]) { s with heap := h', toks := t } := by
  have n1 := N (c, ob) (.head _)
  exact ⟨⟨m, F, lr.ext (Ext.snoc _ _)⟩, I.hr.addAt (fun e he => N e (.tail _ he)) (led_fresh I.hr hc) ⟨ob, n1⟩ ⟨ob, n1⟩ ho, I.os, I.gens, I.gx⟩
theorem get_size_none (h : Heap) : h.get? h.objs.size = none := by
  cases q : h.get? h.objs.size with
  | none => rfl
  | some o => exact absurd (Heap.lt_size q) (Nat.lt_irrefl _)

theorem Inv.list (I : Inv W X g ρ l hp s) {k : Nat} {xs : List V} (e : hp[k]? = some (.list xs)) : ∃ p vs n, ρ[k]? = some p ∧ s.heap.get? p.1 = some (listOf (List.toArray vs) n) ∧ VRs ρ xs vs := by
  obtain ⟨p, hp, vs, n, a, b⟩ := I.hr.at e
  exact ⟨p, vs, n, hp, a, b⟩
theorem Inv.tup (I : Inv W X g ρ l hp s) {k : Nat} {xs : List V} (e : hp[k]? = some (.tup xs)) : ∃ p vs n, ρ[k]? = some p ∧ s.heap.get? p.1 = some { cls := .type "tuple", data := .seq (List.toArray vs) n } ∧ VRs ρ xs vs := by
  obtain ⟨p, hp, vs, n, a, b⟩ := I.hr.at e
  exact ⟨p, vs, n, hp, a, b⟩
/-- the address behind a name -/
theorem Inv.listR (I : Inv W X g ρ l hp s) {k : Nat} {xs : List V} (e : hp[k]? = some (.list xs)) {v' : Value} (hv : VR ρ (.ref k) v') : ListR ρ s.heap k xs v' := by
  obtain ⟨p, vs, n, a, b, c⟩ := I.list e
  obtain ⟨q, hq, rfl⟩ := hv
  rw [a] at hq; cases hq
  exact ⟨p, vs, n, a, rfl, b, c⟩
theorem Inv.tupR (I : Inv W X g ρ l hp s) {k : Nat} {xs : List V} (e : hp[k]? = some (.tup xs)) {v' : Value} (hv : VR ρ (.ref k) v') : TupR ρ s.heap k xs v' := by
  obtain ⟨p, vs, n, a, b, c⟩ := I.tup e
  obtain ⟨q, hq, rfl⟩ := hv
  rw [a] at hq; cases hq
  exact ⟨p, vs, n, a, rfl, b, c⟩
theorem isList_of {h : Heap} {a : Addr} {vs : Array Value} {n : Nat} (e : h.get? a = some (listOf vs n)) : h.IsList a vs := ⟨_, e, rfl, n, rfl⟩

/-- a new list -/
theorem Inv.newList (I : Inv W X g ρ l hp s) {xs : List V} {vs : List Value} (h : VRs ρ xs vs) (t : Nat) :
    Inv W X g (ρ ++ [(s.heap.objs.size, s.heap.objs.size)]) l (hp ++ [.list xs]) { s with heap := s.heap.push { cls := .type "list", data := .seq vs.toArray }, toks := t } :=
  I.push rfl t ⟨vs, 0, Heap.get?_push_size _ rfl, h.ext (Ext.snoc _ _)⟩
theorem Inv.newTup (I : Inv W X g ρ l hp s) {xs : List V} {vs : List Value} (h : VRs ρ xs vs) (t : Nat) :
    Inv W X g (ρ ++ [(s.heap.objs.size, s.heap.objs.size)]) l (hp ++ [.tup xs]) { s with heap := s.heap.push { cls := .type "tuple", data := .seq vs.toArray }, toks := t } :=
  I.push rfl t ⟨vs, 0, Heap.get?_push_size _ rfl, h.ext (Ext.snoc _ _)⟩
theorem PostE.newList {P : V → List O → Prop} (I : Inv W X g ρ l hp s) {xs : List V} {vs : List Value} (h : VRs ρ xs vs) (hP : P (.ref hp.length) (hp ++ [.list xs])) (t : Nat) :
    PostE W X g ρ l P (.ref s.heap.objs.size) { s with heap := s.heap.push { cls := .type "list", data := .seq vs.toArray }, toks := t } :=
  ⟨_, _, _, Ext.snoc _ _, I.ref_new (_, _), I.newList h t, hP⟩
theorem PostE.newListAt {P : V → List O → Prop} (I : Inv W X g ρ l hp s) {m : Str → Option Value} (lr : LR X.names ρ l m) {h' : Heap} {xs : List V} {vs : List Value} {c : Addr} {n : Nat} (F : Fr X.h₀ X.L h' m)
    (N : News X.h₀ X.L h' ((c, listOf (List.toArray vs) n) :: led s.heap ρ g.ext)) (hc : s.heap.get? c = none) (h : VRs ρ xs vs) (hP : P (.ref hp.length) (hp ++ [.list xs])) (t : Nat) :
    PostE W X g ρ l P (.ref c) { s with heap := h', toks := t } :=
  ⟨_, _, _, Ext.snoc _ _, I.ref_new (_, _), I.addAt (o := .list xs) lr F N hc ⟨vs, n, (N _ (.head _)).1, h.ext (Ext.snoc _ _)⟩ t, hP⟩
theorem PostE.newTup {P : V → List O → Prop} (I : Inv W X g ρ l hp s) {xs : List V} {vs : List Value} (h : VRs ρ xs vs) (hP : P (.ref hp.length) (hp ++ [.tup xs])) (t : Nat) :
    PostE W X g ρ l P (.ref s.heap.objs.size) { s with heap := s.heap.push { cls := .type "tuple", data := .seq vs.toArray }, toks := t } :=
  ⟨_, _, _, Ext.snoc _ _, I.ref_new (_, _), I.newTup h t, hP⟩
end

/-! the shapes of arguments -/
noncomputable def onRef (v : V) (f : Nat → Prop) : Prop := match v with | .ref k => f k | _ => False
noncomputable def onInt (v : V) (f : Int → Prop) : Prop := match v with | .int i => f i | _ => False
noncomputable def onStr (v : V) (f : List Nat → Prop) : Prop := match v with | .str x => f x | _ => False
noncomputable def on1 (vs : List V) (f : V → Prop) : Prop := match vs with | [a] => f a | _ => False
noncomputable def on2 (vs : List V) (f : V → V → Prop) : Prop := match vs with | [a, b] => f a b | _ => False
noncomputable def on3 (vs : List V) (f : V → V → V → Prop) : Prop := match vs with | [a, b, c] => f a b c | _ => False
theorem onRef_inv {v : V} {f : Nat → Prop} (h : onRef v f) : ∃ k, v = .ref k ∧ f k := by cases v <;> first | exact ⟨_, rfl, h⟩ | exact False.elim h
theorem onInt_inv {ρ : Rho} {v : V} {v' : Value} {f : Int → Prop} (h : onInt v f) (r : VR ρ v v') : ∃ i t, v = .int i ∧ v' = .int i t ∧ f i := by
  cases v <;> first | (obtain ⟨t, rfl⟩ := r; exact ⟨_, t, rfl, rfl, h⟩) | exact False.elim h
theorem onStr_inv {ρ : Rho} {v : V} {v' : Value} {f : List Nat → Prop} (h : onStr v f) (r : VR ρ v v') : ∃ x t, v = .str x ∧ v' = .str ⟨x.toArray⟩ t ∧ f x := by
  cases v <;> first | (obtain ⟨t, rfl⟩ := r; exact ⟨_, t, rfl, rfl, h⟩) | exact False.elim h
theorem VRs.nil_inv {ρ : Rho} {vs' : List Value} (r : VRs ρ [] vs') : vs' = [] := by cases r; rfl
theorem VRs.cons_inv {ρ : Rho} {a : V} {vs : List V} {vs' : List Value} (r : VRs ρ (a :: vs) vs') : ∃ a' t, vs' = a' :: t ∧ VR ρ a a' ∧ VRs ρ vs t := by
  cases r with
  | cons x y => exact ⟨_, _, rfl, x, y⟩
theorem VRs.one_inv {ρ : Rho} {a : V} {vs' : List Value} (r : VRs ρ [a] vs') : ∃ a', vs' = [a'] ∧ VR ρ a a' := by
  obtain ⟨a', t, rfl, x, r⟩ := r.cons_inv
  exact ⟨a', congrArg _ r.nil_inv, x⟩
theorem VRs.two_inv {ρ : Rho} {a b : V} {vs' : List Value} (r : VRs ρ [a, b] vs') : ∃ a' b', vs' = [a', b'] ∧ VR ρ a a' ∧ VR ρ b b' := by
  obtain ⟨a', t, rfl, x, r⟩ := r.cons_inv
  obtain ⟨b', rfl, y⟩ := r.one_inv
  exact ⟨a', b', rfl, x, y⟩
theorem on1_inv {ρ : Rho} {vs : List V} {vs' : List Value} {f : V → Prop} (h : on1 vs f) (r : VRs ρ vs vs') : ∃ a a', vs' = [a'] ∧ VR ρ a a' ∧ f a := by
  cases vs with
  | nil => exact False.elim h
  | cons a vs => cases vs with
    | nil =>
      obtain ⟨a', e, x⟩ := r.one_inv
      exact ⟨a, a', e, x, h⟩
    | cons b vs => exact False.elim h
theorem on2_inv {ρ : Rho} {vs : List V} {vs' : List Value} {f : V → V → Prop} (h : on2 vs f) (r : VRs ρ vs vs') : ∃ a b a' b', vs' = [a', b'] ∧ VR ρ a a' ∧ VR ρ b b' ∧ f a b := by
  cases vs with
  | nil => exact False.elim h
  | cons a vs => cases vs with
    | nil => exact False.elim h
    | cons b vs => cases vs with
      | nil =>
        obtain ⟨a', b', e, x, y⟩ := r.two_inv
        exact ⟨a, b, a', b', e, x, y, h⟩
      | cons c vs => exact False.elim h
theorem on3_inv {ρ : Rho} {vs : List V} {vs' : List Value} {f : V → V → V → Prop} (h : on3 vs f) (r : VRs ρ vs vs') : ∃ a b c a' b' c', vs' = [a', b', c'] ∧ VR ρ a a' ∧ VR ρ b b' ∧ VR ρ c c' ∧ f a b c := by
  cases vs with
  | nil => exact False.elim h
  | cons a vs => cases vs with
    | nil => exact False.elim h
    | cons b vs => cases vs with
      | nil => exact False.elim h
      | cons c vs => cases vs with
        | nil =>
          obtain ⟨a', t, rfl, x, r⟩ := r.cons_inv
          obtain ⟨b', c', rfl, y, z⟩ := r.two_inv
          exact ⟨a, b, c, a', b', c', rfl, x, y, z, h⟩
        | cons d vs => exact False.elim h
/-! the operators -/
noncomputable def small (x : Int) : Prop := -(2 ^ 60) < x ∧ x < 2 ^ 60
noncomputable def binI (op : Operator) (x y : Int) (h : List O) (P : V → List O → Prop) : Prop :=
  match op with
  | .Add => P (.int (x + y)) h
  | .Sub => P (.int (x - y)) h
  | .Mult => small x ∧ small y ∧ P (.int (x * y)) h
  | .FloorDiv => (0 < y ∧ y < 2 ^ 20) ∧ P (.int (x.fdiv y)) h
  | .Mod => 0 < y ∧ P (.int (x.fmod y)) h
  | _ => False
noncomputable def binS (op : Operator) (x : List Nat) (b : V) (h : List O) (P : V → List O → Prop) : Prop :=
  match op with
  | .Add => (match b with | .str y => x.length + y.length ≤ 2 ^ 20 ∧ P (.str (x ++ y)) h | _ => False)
  | .Mult => (match b with | .int y => (0 ≤ y ∧ y ≤ 2 ^ 16 ∧ x.length ≤ 16) ∧ P (.str (List.replicate y.toNat x).flatten) h | _ => False)
  | _ => False
noncomputable def binR (op : Operator) (i : Nat) (b : V) (h : List O) (P : V → List O → Prop) : Prop :=
  match op with
  | .Add => (match b with | .ref j => Got2 (fun xs ys => h[i]? = some (.list xs) ∧ h[j]? = some (.list ys) ∧ xs.length + ys.length ≤ 2 ^ 20) fun xs ys => P (.ref h.length) (h ++ [.list (xs ++ ys)]) | _ => False)
  | .Mult => (match b with | .int y => Got (fun xs => h[i]? = some (.list xs) ∧ 0 ≤ y ∧ y ≤ 2 ^ 16 ∧ xs.length ≤ 16) fun xs => P (.ref h.length) (h ++ [.list (List.replicate y.toNat xs).flatten]) | _ => False)
  | _ => False
noncomputable def binW (op : Operator) (a b : V) (h : List O) (P : V → List O → Prop) : Prop :=
  match a with
  | .int x => (match b with | .int y => binI op x y h P | _ => False)
  | .str x => binS op x b h P
  | .ref i => binR op i b h P
  | _ => False
noncomputable def eBin (op : Operator) (a b : EV) : EV := fun l h P => a l h fun va h1 => b l h1 fun vb h2 => binW op va vb h2 P

section
variable {W : Wd} {X : Fx} {g : Gx} {ρ : Rho} {l : Loc} {hp : List O} {s : Shared} {P : V → List O → Prop} {E : Value → Shared → Prop}

theorem add_lists' {a b : Addr} {vs ws : List Value} {n n2 : Nat} {Q : Value → Shared → Prop} (ha : s.heap.get? a = some (listOf (List.toArray vs) n)) (hb : s.heap.get? b = some (listOf (List.toArray ws) n2)) (hsz : vs.length + ws.length ≤ sizeLine)
    (h : Q (.ref s.heap.objs.size) { s with heap := s.heap.push { cls := .type "list", data := .seq (vs ++ ws).toArray } }) : wpAny W.M X.A (binaryOp .Add (.ref a) (.ref b)) Q E s := by
  have e : vs.toArray ++ ws.toArray = (vs ++ ws).toArray := by simp
  refine concat_meets ⟨_, ha, rfl⟩ ⟨_, hb, rfl⟩ noFill_list_add seq_list_add PySem.F.slot_list_add PySem.F.entry_list_add (PySem.F.args_list_add_2 _ _) (list_addW a b vs.toArray ws.toArray n n2 none none #[] #[] (by simpa using hsz)) ⟨ha, hb, ?_⟩
  rw [e]
  exact h

theorem str_append (x y : List Nat) : (⟨x.toArray⟩ : Str) ++ ⟨y.toArray⟩ = ⟨(x ++ y).toArray⟩ := by
  show Str.mk _ = _
  simp
theorem intMul_ok {x y : Int} (h : small x) : IntMulOk x y := by
  unfold IntMulOk
  have := intBits_le_64 (k := x) (by unfold small at h; lia) (by unfold small at h; lia)
  have e : decide (Builtin.Int.intBits x > shortFactorBits) = false := decide_eq_false (by unfold shortFactorBits; lia)
  rw [e]
  simp
theorem foldl_cat {α : Type} (x : List α) : ∀ (n : Nat) (acc : Array α), (List.replicate n x.toArray).foldl (· ++ ·) acc = acc ++ ((List.replicate n x).flatten).toArray
  | 0, acc => by simp
  | n + 1, acc => by
    rw [List.replicate_succ, List.foldl_cons, foldl_cat x n, List.replicate_succ, List.flatten_cons]
    simp
theorem foldl_empty {α : Type} (vs : List α) (n : Nat) : List.foldl (fun x1 x2 => x1 ++ x2) #[] (List.replicate (if vs.toArray.isEmpty = true then 0 else n) vs.toArray) = ((List.replicate n vs).flatten).toArray := by
  rw [foldl_cat]
  split
  · rename_i q
    have : vs = [] := by simpa using q
    subst this; simp
  · simp
theorem txt_mul (x : List Nat) {n : Int} (h : 0 ≤ n) : Txt.mul ⟨x.toArray⟩ n = ⟨((List.replicate n.toNat x).flatten).toArray⟩ := by
  unfold Txt.mul
  split
  · have : n.toNat = 0 := by lia
    rw [this]; rfl
  · split
    · rename_i h1 h2
      rcases Bool.or_eq_true_iff.mp h2 with h2 | h2
      · have : n = 1 := by simpa using h2
        subst this; simp
      · have : x = [] := by simpa [Str.length] using h2
        subst this; simp
    · congr 1
      rw [foldl_cat]; simp
theorem VRs.flat {ρ : Rho} {xs : List V} {vs : List Value} (h : VRs ρ xs vs) : ∀ n, VRs ρ (List.replicate n xs).flatten (List.replicate n vs).flatten
  | 0 => .nil
  | n + 1 => by rw [List.replicate_succ, List.replicate_succ, List.flatten_cons, List.flatten_cons]; exact h.append (VRs.flat h n)
theorem lt63 {n : Nat} (h : n ≤ 2 ^ 20) : (n : Int) < 2 ^ 63 := by lia
theorem sizeLine_ge {n : Nat} (h : n ≤ 2 ^ 20) : n ≤ sizeLine := by rw [sizeLine_eq]; lia

theorem op_binI (op : Operator) {x y : Int} {t u : Nat} (I : Inv W X g ρ l hp s) (h : binI op x y hp P) : wpAny W.M X.A (binaryOp op (.int x t) (.int y u)) (PostE W X g ρ l P) E s := by
  cases op with
  | Add => exact add_int (PostE.here I (VR.int _ _) h _)
  | Sub => exact sub_int (PostE.here I (VR.int _ _) h _)
  | Mult => exact mul_int (PostE.here I (VR.int _ _) h.2.2 _) (intMul_ok h.1)
  | FloorDiv => exact floordiv_int (Int.ne_of_gt h.1.1) (PostE.here I (VR.int _ _) h.2 _) (.inl (PyProof.noPylong_small (by have := h.1; clear h; lia)))
  | Mod => exact mod_int' (Int.ne_of_gt h.1) (PostE.here I (VR.int _ _) h.2 _)
  | _ => exact False.elim h
theorem op_binS (op : Operator) {x : List Nat} {vb : V} {vb' : Value} {t : Nat} (I : Inv W X g ρ l hp s) (hb : VR ρ vb vb') (h : binS op x vb hp P) : wpAny W.M X.A (binaryOp op (.str ⟨x.toArray⟩ t) vb') (PostE W X g ρ l P) E s := by
  cases op with
  | Add => cases vb with
    | str y =>
      obtain ⟨u, rfl⟩ := hb
      refine PyProof.Rows.add_str (fun t' tk => ?_) (sizeLine_ge h.1)
      rw [str_append]
      exact PostE.here I (VR.str _ _) h.2 _
    | _ => exact False.elim h
  | Mult => cases vb with
    | int y =>
      obtain ⟨u, rfl⟩ := hb
      refine SB.mul (mulOk_of 16 65536 h.1.2.2 (by have := h.1; clear h; lia) (by have := h.1; clear h; lia) (by decide) (by decide)) fun t' k => ?_
      rw [txt_mul _ h.1.1]
      exact PostE.here I (VR.str _ _) h.2 _
    | _ => exact False.elim h
  | _ => exact False.elim h
theorem op_binR (op : Operator) {i : Nat} {va' : Value} {vb : V} {vb' : Value} (I : Inv W X g ρ l hp s) (ha : VR ρ (.ref i) va') (hb : VR ρ vb vb') (h : binR op i vb hp P) : wpAny W.M X.A (binaryOp op va' vb') (PostE W X g ρ l P) E s := by
  cases op with
  | Add => cases vb with
    | ref j =>
      obtain ⟨xs, ys, ⟨e1, e2, e3⟩, h⟩ := h
      obtain ⟨p, vs, n, hp1, rfl, g1, r1⟩ := I.listR e1 ha
      obtain ⟨q, ws, n2, hp2, rfl, g2, r2⟩ := I.listR e2 hb
      exact add_lists' g1 g2 (sizeLine_ge (by rw [← r1.length, ← r2.length]; exact e3)) (PostE.newList I (r1.append r2) h _)
    | _ => exact False.elim h
  | Mult => cases vb with
    | int y =>
      obtain ⟨xs, ⟨e1, e2, e3⟩, h⟩ := h
      obtain ⟨p, vs, n, hp1, rfl, g1, r1⟩ := I.listR e1 ha
      obtain ⟨u, rfl⟩ := hb
      obtain ⟨m, F, lr, N⟩ := I.frame
      have hl : vs.length ≤ 16 := by rw [← r1.length]; exact e3.2
      refine mul_list F N g1 (by lia) (by lia) (Nat.le_trans (Nat.mul_le_mul (by rw [List.size_toArray]; exact hl) (show _ ≤ 65536 by lia)) (by decide)) (fun h' F' N' => ?_)
      rw [foldl_empty] at N'
      exact PostE.newListAt I lr F' N' (get_size_none _) (r1.flat _) h _
    | _ => exact False.elim h
  | _ => exact False.elim h
theorem op_bin (op : Operator) {va vb : V} {va' vb' : Value} (I : Inv W X g ρ l hp s) (ha : VR ρ va va') (hb : VR ρ vb vb') (h : binW op va vb hp P) : wpAny W.M X.A (binaryOp op va' vb') (PostE W X g ρ l P) E s := by
  cases va with
  | int x => cases vb with
    | int y => obtain ⟨t, rfl⟩ := ha; obtain ⟨u, rfl⟩ := hb; exact op_binI op I h
    | _ => exact False.elim h
  | str x => obtain ⟨t, rfl⟩ := ha; exact op_binS op I hb h
  | ref i => exact op_binR op I ha hb h
  | _ => exact False.elim h
theorem se_bin {a b : PySem.Expr} {ea eb : EV} {op : Operator} {pos : Pos} (ha : SE W X (eval a X.env) ea) (hb : SE W X (eval b X.env) eb) : SE W X (eval (.BinOp a op b pos) X.env) (eBin op ea eb) := by
  intro g E ρ l hp s P I h
  refine wpAny_BinOp (wpAny_mono (ha g E ρ l hp s _ I h) (fun va' s₁ h₁ => ?_) fun _ _ x => x)
  obtain ⟨ρ₁, va, hp₁, x₁, r₁, I₁, h₁⟩ := h₁
  refine wpAny_mono (hb g E ρ₁ l hp₁ s₁ _ I₁ h₁) (fun vb' s₂ h₂ => ?_) fun _ _ x => x
  obtain ⟨ρ₂, vb, hp₂, x₂, r₂, I₂, h₂⟩ := h₂
  exact wpAny_mono (op_bin op I₂ (r₁.ext x₂) r₂ h₂) (fun _ _ h => PostE.later (x₁.trans x₂) h) fun _ _ x => x
end
end Mine
end

noncomputable section -- L1c
open PySem PySem.W PySem.Calls PyProof.Rows
set_option maxRecDepth 100000
set_option autoImplicit false
namespace Mine

/-! data read off my heap -/
mutual
inductive DV (hp : List O) : V → PyData → Prop
  | none : DV hp .none .none
  | bool (b : Bool) : DV hp (.bool b) (.bool b)
  | int (i : Int) : DV hp (.int i) (.int i)
  | str (x : List Nat) : DV hp (.str x) (.str ⟨x.toArray⟩)
  | list {k : Nat} {xs : List V} {ds : List PyData} : hp[k]? = some (.list xs) → DVs hp xs ds → DV hp (.ref k) (.list ds)
  | tup {k : Nat} {xs : List V} {ds : List PyData} : hp[k]? = some (.tup xs) → DVs hp xs ds → DV hp (.ref k) (.tuple ds)
inductive DVs (hp : List O) : List V → List PyData → Prop
  | nil : DVs hp [] []
  | cons {v : V} {d : PyData} {vs : List V} {ds : List PyData} : DV hp v d → DVs hp vs ds → DVs hp (v :: vs) (d :: ds)
end

section
variable {W : Wd} {X : Fx} {g : Gx} {ρ : Rho} {l : Loc} {hp : List O} {s : Shared} {E : Value → Shared → Prop}

mutual
theorem DV.reads (I : Inv W X g ρ l hp s) : ∀ {v : V} {d : PyData}, DV hp v d → ∀ {v' : Value}, VR ρ v v' → ∃ as, Reads s.heap v' d as
  | _, _, .none, _, h => by cases h; exact ⟨_, .none⟩
  | _, _, .bool b, _, h => by cases h; exact ⟨_, .bool b⟩
  | _, _, .int i, _, h => by obtain ⟨t, rfl⟩ := h; exact ⟨_, .int i t⟩
  | _, _, .str x, _, h => by obtain ⟨t, rfl⟩ := h; exact ⟨_, .str _ t⟩
  | _, _, .list e ds, _, h => by
    obtain ⟨p, vs, n, _, rfl, g, r⟩ := I.listR e h
    obtain ⟨as, a⟩ := DVs.reads I ds r
    exact ⟨_, .list g rfl rfl (by simpa using a)⟩
  | _, _, .tup e ds, _, h => by
    obtain ⟨p, vs, n, _, rfl, g, r⟩ := I.tupR e h
    obtain ⟨as, a⟩ := DVs.reads I ds r
    exact ⟨_, .tuple g rfl rfl (by simpa using a)⟩
theorem DVs.reads (I : Inv W X g ρ l hp s) : ∀ {v : List V} {d : List PyData}, DVs hp v d → ∀ {v' : List Value}, VRs ρ v v' → ∃ as, ReadsAll s.heap v' d as
  | _, _, .nil, _, .nil => ⟨_, .nil⟩
  | _, _, .cons a b, _, .cons x y => by
    obtain ⟨as, h⟩ := DV.reads I a x
    obtain ⟨bs, g⟩ := DVs.reads I b y
    exact ⟨_, .cons h g⟩
end

/-! comparisons: they do not change the heap -/
noncomputable def cmpN (op : CmpOp) (v : V) (P : Bool → Prop) : Prop :=
  match op with
  | .Is => P (match v with | .none => true | _ => false)
  | .IsNot => P (match v with | .none => false | _ => true)
  | _ => False
noncomputable def cmpI (op : CmpOp) (x y : Int) (P : Bool → Prop) : Prop :=
  match op with
  | .Lt => P (decide (x < y))
  | .LtE => P (decide (x ≤ y))
  | .Gt => P (decide (y < x))
  | .GtE => P (decide (y ≤ x))
  | .Eq => P (decide (x = y))
  | .NotEq => P (decide (x ≠ y))
  | _ => False
noncomputable def cmpS (op : CmpOp) (x y : List Nat) (P : Bool → Prop) : Prop :=
  match op with
  | .Eq => P (decide (x = y))
  | .NotIn => Got (fun c => x = [c]) fun c => P (!decide (c ∈ y))
  | _ => False
noncomputable def cmpR (op : CmpOp) (i j : Nat) (h : List O) (P : Bool → Prop) : Prop :=
  match op with
  | .Eq => Got2 (fun d e => DV h (.ref i) d ∧ DV h (.ref j) e ∧ SeqAt.shaped d = true ∧ SeqAt.shaped e = true ∧ SeqAt.noMix d e = true) fun d e => P (Spec.same d e)
  | .NotEq => Got2 (fun d e => DV h (.ref i) d ∧ DV h (.ref j) e ∧ SeqAt.shaped d = true ∧ SeqAt.shaped e = true ∧ SeqAt.noMix d e = true) fun d e => P (!Spec.same d e)
  | _ => False
noncomputable def cmpM (op : CmpOp) (x : List Nat) (j : Nat) (h : List O) (P : Bool → Prop) : Prop :=
  match op with
  | .In => Got (fun ys : List (List Nat) => h[j]? = some (.list (ys.map .str))) fun ys => P (decide (x ∈ ys))
  | .NotIn => Got (fun ys : List (List Nat) => h[j]? = some (.list (ys.map .str))) fun ys => P (!decide (x ∈ ys))
  | _ => False
noncomputable def cmpW (op : CmpOp) (a b : V) (h : List O) (P : Bool → Prop) : Prop :=
  match b with
  | .none => cmpN op a P
  | .bool _ => False
  | .int y => (match a with | .int x => cmpI op x y P | _ => False)
  | .str y => (match a with | .str x => cmpS op x y P | _ => False)
  | .ref j => (match a with | .str x => cmpM op x j h P | .ref i => cmpR op i j h P | _ => False)

theorem str_eq_iff (x y : List Nat) : ((⟨x.toArray⟩ : Str) == ⟨y.toArray⟩) = decide (x = y) := by
  rw [Bool.eq_iff_iff]
  simp
theorem isNone_val {v : V} {v' : Value} (h : VR ρ v v') : (v' == .none) = (match v with | .none => true | _ => false) := by
  cases v with
  | none => cases h; rfl
  | bool b => cases h; rfl
  | int i => obtain ⟨t, rfl⟩ := h; rfl
  | str x => obtain ⟨t, rfl⟩ := h; rfl
  | ref k => obtain ⟨p, _, rfl⟩ := h; rfl

theorem strsAre {ρ : Rho} : ∀ {ys : List (List Nat)} {vs : List Value}, VRs ρ (ys.map .str) vs → StrsAre vs (ys.map fun y => (⟨y.toArray⟩ : Str))
  | [], _, h => by cases h; exact .nil
  | y :: r, _, h => by
    cases h with
    | cons a b =>
      obtain ⟨t, rfl⟩ := a
      exact .cons _ t (strsAre b)
theorem any_strs (x : List Nat) : ∀ ys : List (List Nat), ((ys.map fun y => (⟨y.toArray⟩ : Str)).any (· == (⟨x.toArray⟩ : Str))) = decide (x ∈ ys)
  | [] => by simp
  | y :: r => by
    rw [List.map_cons, List.any_cons, any_strs x r, str_eq_iff, Bool.eq_iff_iff]
    simp only [Bool.or_eq_true, decide_eq_true_eq, List.mem_cons]
    constructor
    · rintro (h | h)
      · exact .inl h.symm
      · exact .inr h
    · rintro (h | h)
      · exact .inl h.symm
      · exact .inr h

theorem op_cmpI (op : CmpOp) {x y : Int} {t u : Nat} {Q : Value → Shared → Prop} {P : Bool → Prop} (h : cmpI op x y P) (hQ : ∀ b, P b → Q (.bool b) s) : wpAny W.M X.A (compareOp op (.int x t) (.int y u)) Q E s := by
  cases op with
  | Lt => exact lt_int (hQ _ h)
  | LtE => exact PyProof.Rows.le_int (hQ _ h)
  | Gt => exact gt_int (hQ _ h)
  | GtE => exact PyProof.Rows.ge_int (hQ _ h)
  | Eq => exact eq_int (by rw [show (x == y) = decide (x = y) from by rw [Bool.eq_iff_iff]; simp]; exact hQ _ h)
  | NotEq => exact ne_int (by rw [show (x != y) = decide (x ≠ y) from by rw [Bool.eq_iff_iff]; simp]; exact hQ _ h)
  | _ => exact False.elim h
theorem op_cmpN (op : CmpOp) {v : V} {v' : Value} (hv : VR ρ v v') {Q : Value → Shared → Prop} {P : Bool → Prop} (h : cmpN op v P) (hQ : ∀ b, P b → Q (.bool b) s) : wpAny W.M X.A (compareOp op v' .none) Q E s := by
  cases op with
  | Is =>
    refine is_none ?_
    rw [isNone_val hv]
    have := hQ _ h
    cases v <;> exact this
  | IsNot =>
    refine isNot_none ?_
    rw [isNone_val hv]
    have := hQ _ h
    cases v <;> exact this
  | _ => exact False.elim h
theorem op_cmpS (op : CmpOp) {x y : List Nat} {t u : Nat} {Q : Value → Shared → Prop} {P : Bool → Prop} (h : cmpS op x y P) (hQ : ∀ b, P b → Q (.bool b) s) : wpAny W.M X.A (compareOp op (.str ⟨x.toArray⟩ t) (.str ⟨y.toArray⟩ u)) Q E s := by
  cases op with
  | Eq => exact PyProof.Rows.eq_str (by rw [str_eq_iff]; exact hQ _ h)
  | NotIn =>
    obtain ⟨c, rfl, h⟩ := h
    exact PyProof.Rows.notIn_str (by rw [StrLaws.found_one]; exact hQ _ h)
  | _ => exact False.elim h
theorem op_cmpR {d : Nat} (O : X.Ok W d) (op : CmpOp) {i j : Nat} {va vb : Value} {Q : Value → Shared → Prop} (I : Inv W X g ρ l hp s) (ha : VR ρ (.ref i) va) (hb : VR ρ (.ref j) vb) {P : Bool → Prop} (h : cmpR op i j hp P) (hQ : ∀ b, P b → Q (.bool b) s) :
    wpAny W.M X.A (compareOp op va vb) Q E s := by
  have hu : X.A.units + 64 < cLine := by have := O.units; lia
  cases op with
  | Eq =>
    obtain ⟨d, e, ⟨r1, r2, s1, s2, hm⟩, h⟩ := h
    obtain ⟨as, q1⟩ := DV.reads I r1 ha
    obtain ⟨bs, q2⟩ := DV.reads I r2 hb
    exact eq_dataH_same q1 q2 s1 s2 hu hm (hQ _ h)
  | NotEq =>
    obtain ⟨d, e, ⟨r1, r2, s1, s2, hm⟩, h⟩ := h
    obtain ⟨as, q1⟩ := DV.reads I r1 ha
    obtain ⟨bs, q2⟩ := DV.reads I r2 hb
    exact ne_dataH_same q1 q2 s1 s2 hu hm (hQ _ h)
  | _ => exact False.elim h
theorem op_cmpM (op : CmpOp) {x : List Nat} {t j : Nat} {vb : Value} {Q : Value → Shared → Prop} (I : Inv W X g ρ l hp s) (hb : VR ρ (.ref j) vb) {P : Bool → Prop} (h : cmpM op x j hp P) (hQ : ∀ b, P b → Q (.bool b) s) :
    wpAny W.M X.A (compareOp op (.str ⟨x.toArray⟩ t) vb) Q E s := by
  cases op with
  | In =>
    obtain ⟨ys, e, h⟩ := h
    obtain ⟨p, vs, n, _, rfl, g, r⟩ := I.listR e hb
    exact in_list_strs (isList_of g) (strsAre r) (by rw [any_strs]; exact hQ _ h)
  | NotIn =>
    obtain ⟨ys, e, h⟩ := h
    obtain ⟨p, vs, n, _, rfl, g, r⟩ := I.listR e hb
    exact notin_list_strs (isList_of g) (strsAre r) (by rw [any_strs]; exact hQ _ h)
  | _ => exact False.elim h
theorem op_cmp {d : Nat} (O : X.Ok W d) (op : CmpOp) {va vb : V} {va' vb' : Value} {Q : Value → Shared → Prop} (I : Inv W X g ρ l hp s) (ha : VR ρ va va') (hb : VR ρ vb vb') {P : Bool → Prop} (h : cmpW op va vb hp P) (hQ : ∀ b, P b → Q (.bool b) s) :
    wpAny W.M X.A (compareOp op va' vb') Q E s := by
  cases vb with
  | none => cases hb; exact op_cmpN op ha h hQ
  | bool _ => exact False.elim h
  | int y => cases va with
    | int x => obtain ⟨t, rfl⟩ := ha; obtain ⟨u, rfl⟩ := hb; exact op_cmpI op h hQ
    | _ => exact False.elim h
  | str y => cases va with
    | str x => obtain ⟨t, rfl⟩ := ha; obtain ⟨u, rfl⟩ := hb; exact op_cmpS op h hQ
    | _ => exact False.elim h
  | ref j => cases va with
    | str x => obtain ⟨t, rfl⟩ := ha; exact op_cmpM op I hb h hQ
    | ref i => exact op_cmpR O op I ha hb h hQ
    | _ => exact False.elim h
end
end Mine
end

noncomputable section -- L1d
open PySem PySem.W PySem.Calls PyProof.Rows
set_option maxRecDepth 100000
set_option autoImplicit false
namespace Mine

section
variable {W : Wd} {X : Fx} {g : Gx} {ρ : Rho} {l : Loc} {hp : List O} {s : Shared} {E : Value → Shared → Prop}

/-! comparisons as values and as tests -/
noncomputable def eCmp (op : CmpOp) (a b : EV) : EV := fun l h P => a l h fun va h1 => b l h1 fun vb h2 => cmpW op va vb h2 fun c => P (.bool c) h2
noncomputable def bCmp (op : CmpOp) (a b : EV) : BV := fun l h P => a l h fun va h1 => b l h1 fun vb h2 => cmpW op va vb h2 fun c => P c h2
theorem se_cmp {d : Nat} (O : X.Ok W d) {a b : PySem.Expr} {ea eb : EV} {op : CmpOp} {pos : Pos} (ha : SE W X (eval a X.env) ea) (hb : SE W X (eval b X.env) eb) (hm : behindInMarks op b = false) :
    SE W X (eval (.Compare a [op] [b] pos) X.env) (eCmp op ea eb) := by
  intro g E ρ l hp s P I h
  refine wpAny_Compare1 (wpAny_mono (ha g E ρ l hp s _ I h) (fun va' s₁ h₁ => ?_) fun _ _ x => x) hm
  obtain ⟨ρ₁, va, hp₁, x₁, r₁, I₁, h₁⟩ := h₁
  refine wpAny_mono (hb g E ρ₁ l hp₁ s₁ _ I₁ h₁) (fun vb' s₂ h₂ => ?_) fun _ _ x => x
  obtain ⟨ρ₂, vb, hp₂, x₂, r₂, I₂, h₂⟩ := h₂
  exact op_cmp O op I₂ (r₁.ext x₂) r₂ h₂ fun c hc => PostE.later (x₁.trans x₂) (PostE.here0 I₂ (VR.bool c) hc)
theorem sb_cmp {d : Nat} (O : X.Ok W d) {a b : PySem.Expr} {ea eb : EV} {op : CmpOp} {pos : Pos} (ha : SE W X (eval a X.env) ea) (hb : SE W X (eval b X.env) eb) (hm : behindInMarks op b = false) :
    ST? W X (.Compare a [op] [b] pos) (bCmp op ea eb) := by
  intro g E ρ l hp s P I h
  refine wpAny_isTrue_Compare1 (wpAny_mono (ha g E ρ l hp s _ I h) (fun va' s₁ h₁ => ?_) fun _ _ x => x) hm
  obtain ⟨ρ₁, va, hp₁, x₁, r₁, I₁, h₁⟩ := h₁
  refine wpAny_mono (hb g E ρ₁ l hp₁ s₁ _ I₁ h₁) (fun vb' s₂ h₂ => ?_) fun _ _ x => x
  obtain ⟨ρ₂, vb, hp₂, x₂, r₂, I₂, h₂⟩ := h₂
  exact op_cmp O op I₂ (r₁.ext x₂) r₂ h₂ fun c hc => wpAny_truthy_bool ⟨ρ₂, hp₂, x₁.trans x₂, I₂, hc⟩
noncomputable def bNot (b : BV) : BV := fun l h P => b l h fun c h1 => P (!c) h1
noncomputable def bAnd (a b : BV) : BV := fun l h P => a l h fun c h1 => match c with | true => b l h1 P | false => P false h1
noncomputable def bTrue : BV := fun _ h P => P true h
/-- a value that is a bool, as a test -/
noncomputable def bVal (e : EV) : BV := fun l h P => e l h fun v h1 => match v with | .bool c => P c h1 | _ => False
theorem sb_not {x : PySem.Expr} {b : BV} {pos : Pos} (h : ST? W X x b) : ST? W X (.UnaryOp .Not x pos) (bNot b) := by
  intro g E ρ l hp s P I hb
  refine isTrue_not (wpAny_mono (h g E ρ l hp s _ I hb) (fun c s' h' => ?_) fun _ _ x => x)
  obtain ⟨ρ₁, hp₁, x₁, I₁, h₁⟩ := h'
  exact ⟨ρ₁, hp₁, x₁, I₁, h₁⟩
theorem sb_and {x : PySem.Expr} {rest : List PySem.Expr} {a b : BV} {pos : Pos} (ha : ST? W X x a) (hb : ST? W X (.BoolOp .And rest pos) b) : ST? W X (.BoolOp .And (x :: rest) pos) (bAnd a b) := by
  intro g E ρ l hp s P I h
  refine isTrue_and (wpAny_mono (ha g E ρ l hp s _ I h) (fun c s' h' => ?_) fun _ _ x => x)
  obtain ⟨ρ₁, hp₁, x₁, I₁, h₁⟩ := h'
  cases c with
  | true =>
    refine wpAny_mono (hb g E ρ₁ l hp₁ s' P I₁ h₁) (fun c s' h => ?_) fun _ _ x => x
    exact PostB.later x₁ h
  | false => exact ⟨ρ₁, hp₁, x₁, I₁, h₁⟩
theorem sb_nil {pos : Pos} : ST? W X (.BoolOp .And [] pos) bTrue := by
  intro g E ρ l hp s P I h
  exact isTrue_and_nil ⟨ρ, hp, Ext.refl _, I, h⟩
theorem sb_val {e : PySem.Expr} {ev : EV} (h : SE W X (eval e X.env) ev) (he : ∀ whole : Sem Value, isTrue e X.env whole = (do let v ← whole; standAt e.pos; holding [v] (truthy v))) : ST? W X e (bVal ev) := by
  intro g E ρ l hp s P I hv
  refine isTrue_plain (wpAny_mono (h g E ρ l hp s _ I hv) (fun v' s' h' => ?_) fun _ _ x => x) (he _)
  obtain ⟨ρ₁, v, hp₁, x₁, r₁, I₁, h₁⟩ := h'
  cases v with
  | bool c => cases r₁; exact wpAny_truthy_bool ⟨ρ₁, hp₁, x₁, I₁, h₁⟩
  | none => exact h₁.elim
  | int i => exact h₁.elim
  | str x => exact h₁.elim
  | ref k => exact h₁.elim

/-! the places of an index, the cut of a slice -/
noncomputable def at? {α : Type} (xs : List α) (i : Int) : Option α := if 0 ≤ i then xs[i.toNat]? else if -(xs.length : Int) ≤ i then xs[(i + xs.length).toNat]? else none
noncomputable def cut {α : Type} (xs : List α) (lo hi : Option Int) : List α := (xs.drop (kms_lo lo xs.length)).take (kms_hi hi xs.length - kms_lo lo xs.length)

noncomputable def idxW (o i : V) (h : List O) (P : V → Prop) : Prop :=
  onInt i fun i => match o with
  | .ref k => Got2 (fun xs v => (h[k]? = some (.list xs) ∨ h[k]? = some (.tup xs)) ∧ small i ∧ at? xs i = some v) fun _ v => P v
  | .str x => Got (fun c => small i ∧ at? x i = some c) fun c => P (.str [c])
  | _ => False
noncomputable def eIdx (a i : EV) : EV := fun l h P => a l h fun o h1 => i l h1 fun i h2 => idxW o i h2 fun v => P v h2

theorem VRs.at {ρ : Rho} {xs : List V} {vs : List Value} (h : VRs ρ xs vs) {i : Int} {v : V} (e : at? xs i = some v) : ∃ v', at? vs i = some v' ∧ VR ρ v v' := by
  unfold at? at e ⊢
  rw [← h.length]
  split at e
  · rename_i q; rw [if_pos q]; exact h.get e
  · rename_i q; rw [if_neg q]
    split at e
    · rename_i r; rw [if_pos r]; exact h.get e
    · cases e
theorem sub_list {slice base : PySem.Expr} {p : Addr} {vs : List Value} {n : Nat} {i : Int} {t : Tok} {v' : Value} {Q : Value → Shared → Prop} (g : s.heap.get? p = some (listOf (List.toArray vs) n)) (hs : small i) (e : at? vs i = some v')
    (hsub : ∀ o k, subscripted slice false o k = operate [o, k] (getItem o k)) (h : Q v' s) : wpAny W.M X.A (subscriptTail base slice (.ref p) (.int i t)) Q E s := by
  have L := isList_of g
  unfold small at hs
  unfold at? at e
  split at e
  · rename_i h0
    exact tail_any L.typeIs slot_list_getitem.lookup (wpAny_getItem_list L h0 (by lia) (by simpa using e) h) (hsub _ _)
  · split at e
    · rename_i h0 h1
      exact tail_any L.typeIs slot_list_getitem.lookup (wpAny_getItem_list_neg L (by lia) (by simpa using h1) (by lia) (by simpa using e) h) (hsub _ _)
    · cases e
theorem item_at {x : List Nat} {i : Int} {c : Nat} (e : at? x i = some c) : Txt.item ⟨x.toArray⟩ i = ⟨[c].toArray⟩ ∧ -(x.length : Int) ≤ i ∧ i < x.length := by
  unfold at? at e
  have key : ∀ j : Nat, x[j]? = some c → (if i < 0 then i + (x.length : Int) else i) = (j : Int) → Txt.item ⟨x.toArray⟩ i = ⟨[c].toArray⟩ ∧ -(x.length : Int) ≤ i ∧ i < x.length := by
    intro j hj hi
    have hl := (List.getElem?_eq_some_iff.mp hj).1
    have hs : seqIndex? i x.length = some j := by
      unfold seqIndex?
      simp only [hi]
      rw [if_pos (by simp; lia)]
      simp
    refine ⟨?_, ?_, ?_⟩
    · unfold Txt.item Txt.charAt
      have : (⟨x.toArray⟩ : Str).length = x.length := by simp [Str.length]
      rw [this, hs]
      simp [hj]
    · split at hi <;> lia
    · split at hi <;> lia
  split at e
  · rename_i h0
    exact key _ e (by rw [if_neg (by lia)]; lia)
  · split at e
    · rename_i h0 h1
      exact key _ e (by rw [if_pos (by lia)]; lia)
    · cases e
theorem at_seq {α : Type} {vs : List α} {i : Int} {v : α} (e : at? vs i = some v) : ∃ j, seqIndex? i vs.length = some j ∧ vs[j]? = some v := by
  unfold at? at e
  split at e
  · rename_i h0
    have hl := (List.getElem?_eq_some_iff.mp e).1
    refine ⟨i.toNat, ?_, e⟩
    unfold seqIndex?
    have e1 : (if i < 0 then i + (vs.length : Int) else i) = i := if_neg (by lia)
    simp only [e1]
    rw [if_pos (by simp; lia)]
  · split at e
    · rename_i h0 h1
      have hl := (List.getElem?_eq_some_iff.mp e).1
      refine ⟨_, ?_, e⟩
      unfold seqIndex?
      have e1 : (if i < 0 then i + (vs.length : Int) else i) = i + vs.length := if_pos (by lia)
      simp only [e1]
      rw [if_pos (by simp; lia)]
    · cases e
theorem se_idx {a i : PySem.Expr} {ea ei : EV} {pos : Pos} (ha : SE W X (eval a X.env) ea) (hi : SE W X (eval i X.env) ei)
    (hsub : ∀ o k, subscripted i false o k = operate [o, k] (getItem o k)) : SE W X (eval (.Subscript a i pos) X.env) (eIdx ea ei) := by
  intro g E ρ l hp s P I h
  refine Subscript_ (wpAny_mono (ha g E ρ l hp s _ I h) (fun va' s₁ h₁ => ?_) fun _ _ x => x)
  obtain ⟨ρ₁, va, hp₁, x₁, r₁, I₁, h₁⟩ := h₁
  refine wpAny_mono (hi g E ρ₁ l hp₁ s₁ _ I₁ h₁) (fun vb' s₂ h₂ => ?_) fun _ _ x => x
  obtain ⟨ρ₂, vb, hp₂, x₂, r₂, I₂, h₂⟩ := h₂
  have r₁' := r₁.ext x₂
  obtain ⟨i, t, rfl, rfl, h₂⟩ := onInt_inv h₂ r₂
  cases va with
  | ref k =>
    obtain ⟨xs, v, ⟨e1, e2, e3⟩, h₃⟩ := h₂
    rcases e1 with e1 | e1
    · obtain ⟨p, vs, n, _, rfl, g, r⟩ := I₂.listR e1 r₁'
      obtain ⟨v', e4, r4⟩ := r.at e3
      exact sub_list g e2 e4 hsub (PostE.later (x₁.trans x₂) (PostE.here0 I₂ r4 h₃))
    · obtain ⟨p, vs, n, _, rfl, g, r⟩ := I₂.tupR e1 r₁'
      obtain ⟨v', e4, r4⟩ := r.at e3
      have T : PyProof.Rows.IsTup s₂.heap p.1 vs.toArray := ⟨_, g, rfl, n, rfl⟩
      obtain ⟨j, j1, j2⟩ := at_seq e4
      unfold small at e2
      exact item_tupleT T (by lia) (by lia) j1 j2 (PostE.later (x₁.trans x₂) (PostE.here0 I₂ r4 h₃)) (hsub _ _)
  | str x =>
    obtain ⟨c, ⟨e2, e3⟩, h₃⟩ := h₂
    obtain ⟨u, rfl⟩ := r₁'
    obtain ⟨q1, q2, q3⟩ := item_at e3
    refine item_str (fitsSsize_of (N := 2 ^ 60) (by unfold small at e2; lia) (by unfold small at e2; lia) (by decide)) (by simpa [Str.length] using q2) (by simpa [Str.length] using q3) (fun _ => ?_) (hsub _ _) (fun r => ?_)
    · rw [q1]
      exact PostE.later (x₁.trans x₂) (PostE.here I₂ (VR.str _ _) h₃ _)
    · cases a <;> rfl
  | _ => exact False.elim h₂

/-! slices -/
theorem filterMap_range {α : Type} (x : List α) (a : Nat) : ∀ n, a + n ≤ x.length → (List.range n).filterMap (fun k => x[a + k]?) = (x.drop a).take n
  | 0, _ => by simp
  | n + 1, h => by
    rw [List.range_succ, List.filterMap_append, filterMap_range x a n (by lia), List.take_succ]
    congr 1
    simp only [List.filterMap_cons, List.filterMap_nil, List.getElem?_drop]
    have : a + n < x.length := by lia
    rw [List.getElem?_eq_getElem this]
    rfl
theorem kms_lo_le (v : Option Int) (n : Nat) : kms_lo v n ≤ n := by
  unfold kms_lo; split
  · lia
  · split <;> lia
theorem kms_hi_le (v : Option Int) (n : Nat) : kms_hi v n ≤ n := by
  unfold kms_hi; split
  · lia
  · split <;> lia
theorem cut_slice (x : List Nat) (lo hi : Option Int) : Txt.slice ⟨x.toArray⟩ lo hi = ⟨(cut x lo hi).toArray⟩ := by
  have len : (⟨x.toArray⟩ : Str).length = x.length := by simp [Str.length]
  have ind : Builtin.Str.strSliceIndices lo hi 1 x.length = (List.range (kms_hi hi x.length - kms_lo lo x.length)).map fun k => kms_lo lo x.length + k := by
    have b := kms_bounds lo hi x.length
    have e : Builtin.Str.strSliceIndices lo hi 1 x.length = sliceRange (sliceBounds lo hi none x.length).1 (sliceBounds lo hi none x.length).2.1 1 := rfl
    rw [e, b]
    unfold sliceRange
    simp only [show (1 : Int) > 0 from by decide, if_true]
    have : (if ((kms_lo lo x.length : Nat) : Int) < ((kms_hi hi x.length : Nat) : Int) then (((kms_hi hi x.length : Nat) : Int) - (kms_lo lo x.length : Nat) + 1 - 1) / 1 else 0).toNat = kms_hi hi x.length - kms_lo lo x.length := by
      split <;> lia
    rw [this]
    refine List.map_congr_left fun k _ => ?_
    lia
  have fm : ((Builtin.Str.strSliceIndices lo hi 1 x.length).filterMap ((⟨x.toArray⟩ : Str).cps[·]?)) = cut x lo hi := by
    rw [ind, List.filterMap_map]
    have := filterMap_range x (kms_lo lo x.length) (kms_hi hi x.length - kms_lo lo x.length) (by have := kms_lo_le lo x.length; have := kms_hi_le hi x.length; lia)
    rw [← show (List.range _).filterMap _ = cut x lo hi from this]
    refine congrArg (fun f => List.filterMap f _) (funext fun k => ?_)
    simp
  unfold Txt.slice
  rw [len]
  split
  · rename_i q
    have q' : (Builtin.Str.strSliceIndices lo hi 1 x.length).length = x.length := by simpa using q
    rw [ind, List.length_map, List.length_range] at q'
    have h1 := kms_hi_le hi x.length
    have h2 := kms_lo_le lo x.length
    congr 1
    unfold cut
    by_cases hz : x.length = 0
    · have : x = [] := List.eq_nil_of_length_eq_zero hz
      subst this; simp
    · have h3 : kms_lo lo x.length = 0 := by lia
      have h4 : kms_hi hi x.length = x.length := by lia
      rw [h3, h4]; simp
  · rw [fm]

/-- what stands at an end of a slice -/
inductive PartR (W : Wd) (X : Fx) : Option PySem.Expr → Option EV → Prop
  | none : PartR W X none none
  | some {e : PySem.Expr} {ev : EV} : SE W X (eval e X.env) ev → PartR W X (some e) (some ev)
noncomputable def partW (e : Option EV) : Loc → List O → (Option Int → List O → Prop) → Prop := fun l h P => match e with
  | none => P none h
  | some ev => ev l h fun v h1 => match v with | .int i => P (some i) h1 | _ => False
noncomputable def PartV : Option Int → Value → Prop
  | none, v => v = .none
  | some i, v => ∃ t, v = .int i t
theorem PartV.is : ∀ {i : Option Int} {v : Value}, PartV i v → IsPart v i
  | none, _, rfl => .none
  | some i, _, ⟨t, rfl⟩ => .int i t
theorem part_sound {e : Option PySem.Expr} {ev : Option EV} (r : PartR W X e ev) {P : Option Int → List O → Prop} (I : Inv W X g ρ l hp s) (h : partW ev l hp P) :
    wpAny W.M X.A (evalPart e X.env) (fun v' s' => ∃ ρ' i h', Ext ρ ρ' ∧ PartV i v' ∧ Inv W X g ρ' l h' s' ∧ P i h') E s := by
  cases r with
  | none => exact wpAny_evalPart_none ⟨ρ, none, hp, Ext.refl _, rfl, I, h⟩
  | some r =>
    refine wpAny_evalPart_some (wpAny_mono (r g E ρ l hp s _ I h) (fun v' s' h' => ?_) fun _ _ x => x)
    obtain ⟨ρ₁, v, hp₁, x₁, r₁, I₁, h₁⟩ := h'
    cases v with
    | int i =>
      obtain ⟨t, rfl⟩ := r₁
      exact ⟨ρ₁, some i, hp₁, x₁, ⟨t, rfl⟩, I₁, h₁⟩
    | none => exact h₁.elim
    | bool i => exact h₁.elim
    | str x => exact h₁.elim
    | ref k => exact h₁.elim

noncomputable def slcW (o : V) (lo hi : Option Int) (h : List O) (P : V → List O → Prop) : Prop :=
  match o with
  | .str x => x.length ≤ 2 ^ 20 ∧ P (.str (cut x lo hi)) h
  | .ref k => Got (fun xs => h[k]? = some (.list xs) ∧ xs.length ≤ 2 ^ 20) fun xs => P (.ref h.length) (h ++ [.list (cut xs lo hi)])
  | _ => False
noncomputable def eSlc (a : EV) (lo hi : Option EV) : EV := fun l h P => a l h fun o h1 => partW lo l h1 fun lo h2 => partW hi l h2 fun hi h3 => slcW o lo hi h3 P

theorem VRs.cut {ρ : Rho} {xs : List V} {vs : List Value} (h : VRs ρ xs vs) (lo hi : Option Int) : VRs ρ (cut xs lo hi) (cut vs lo hi) := by
  unfold Mine.cut
  rw [h.length]
  exact (h.drop _).take _

theorem getItem_str_cut {x : List Nat} {t : Tok} {a : Addr} {lo hi : Option Int} {vl vu : Value} {Q : Value → Shared → Prop} (ho : s.heap.get? a = some { cls := .type "slice", data := .fields #[vl, vu, .none] }) (pl : PartV lo vl) (pu : PartV hi vu)
    (hsz : x.length ≤ sizeLine) (h : ∀ t' k, Q (.str ⟨(cut x lo hi).toArray⟩ t') { s with toks := k }) : wpAny W.M X.A (getItem (.str ⟨x.toArray⟩ t) (.ref a)) Q E s := by
  have key : ∀ l u : Option (Int × Tok), l.map (·.1) = lo → u.map (·.1) = hi → s.heap.IsSlice a l u none → wpAny W.M X.A (getItem (.str ⟨x.toArray⟩ t) (.ref a)) Q E s := by
    rintro l u rfl rfl hs
    refine wpAny_getItem_str_slice hs rfl (post_val_or_str ⟨?_, fun t' k => ?_⟩)
    · show (Txt.slice ⟨x.toArray⟩ (l.map (·.1)) (u.map (·.1))).length ≤ _
      refine Nat.le_trans (Txt.slice_le _ _ _) ?_
      simpa [Str.length] using hsz
    · show Q (.str (Txt.slice ⟨x.toArray⟩ (l.map (·.1)) (u.map (·.1))) t') _
      rw [cut_slice]
      exact h t' k
  cases lo with
  | none =>
    cases pl
    cases hi with
    | none => cases pu; exact key none none rfl rfl ⟨_, ho, rfl, rfl⟩
    | some j => obtain ⟨t, rfl⟩ := pu; exact key none (some (j, t)) rfl rfl ⟨_, ho, rfl, rfl⟩
  | some i =>
    obtain ⟨u, rfl⟩ := pl
    cases hi with
    | none => cases pu; exact key (some (i, u)) none rfl rfl ⟨_, ho, rfl, rfl⟩
    | some j => obtain ⟨t, rfl⟩ := pu; exact key (some (i, u)) (some (j, t)) rfl rfl ⟨_, ho, rfl, rfl⟩

theorem se_slc {a : PySem.Expr} {lo hi : Option PySem.Expr} {ea : EV} {el eh : Option EV} {p pos : Pos} (ha : SE W X (eval a X.env) ea) (hlo : PartR W X lo el) (hhi : PartR W X hi eh) :
    SE W X (eval (.Subscript a (.Slice lo hi none p) pos) X.env) (eSlc ea el eh) := by
  intro g E ρ l hp s P I h
  refine Subscript_ (wpAny_mono (ha g E ρ l hp s _ I h) (fun va' s₁ h₁ => ?_) fun _ _ x => x)
  obtain ⟨ρ₁, va, hp₁, x₁, r₁, I₁, h₁⟩ := h₁
  refine wpAny_Slice (wpAny_mono (part_sound hlo I₁ h₁) (fun vl s₂ h₂ => ?_) fun _ _ x => x)
  obtain ⟨ρ₂, lo, hp₂, x₂, r₂, I₂, h₂⟩ := h₂
  refine wpAny_mono (part_sound hhi I₂ h₂) (fun vu s₃ h₃ => ?_) fun _ _ x => x
  obtain ⟨ρ₃, hi, hp₃, x₃, r₃, I₃, h₃⟩ := h₃
  refine wpAny_evalPart_none ?_
  have I₄ := I₃.keep (h' := s₃.heap.push { cls := .type "slice", data := .fields #[vl, vu, .none] }) (fun b o e => Heap.get?_push_of_some _ e) s₃.toks
  have hsl : (s₃.heap.push { cls := .type "slice", data := .fields #[vl, vu, .none] }).get? s₃.heap.objs.size = some { cls := .type "slice", data := .fields #[vl, vu, .none] } := Heap.get?_push_size _ rfl
  have r₁' := r₁.ext (x₂.trans x₃)
  have xx := x₁.trans (x₂.trans x₃)
  unfold slcW at h₃
  split at h₃
  · obtain ⟨t, rfl⟩ := r₁'
    refine tail_any (typeIs_str _ _ _) F.slot_str_getitem.lookup (getItem_str_cut hsl r₂ r₃ (sizeLine_ge h₃.1) fun t' k => ?_) rfl
    exact PostE.later xx (PostE.here I₄ (VR.str _ _) h₃.2 _)
  · obtain ⟨xs, ⟨e1, e2⟩, h₃⟩ := h₃
    obtain ⟨q, vs, n, _, rfl, g, r⟩ := I₄.listR e1 r₁'
    refine tail_any (isList_of g).typeIs slot_list_getitem.lookup (wpAny_getItem_list_slice (isList_of g) ⟨_, hsl, rfl, rfl⟩ r₂.is r₃.is .none (by intro e; cases e) ?_ (by rw [List.size_toArray, ← r.length]; exact sizeLine_ge e2)) rfl
    rw [kms_pick_eq]
    exact PostE.later xx (PostE.newList I₄ (r.cut lo hi) h₃ _)
  · exact h₃.elim

/-- xs[::-1] -/
noncomputable def eRev (a : EV) : EV := fun l h P => a l h fun o h1 => match o with
  | .ref k => Got (fun xs => h1[k]? = some (.list xs) ∧ xs.length ≤ 2 ^ 20) fun xs => P (.ref h1.length) (h1 ++ [.list xs.reverse])
  | _ => False
noncomputable def eNeg (a : EV) : EV := fun l h P => a l h fun v h1 => match v with | .int i => P (.int (-i)) h1 | _ => False
theorem se_neg {a : PySem.Expr} {ea : EV} {pos : Pos} (ha : SE W X (eval a X.env) ea) : SE W X (eval (.UnaryOp .USub a pos) X.env) (eNeg ea) := by
  intro g E ρ l hp s P I h
  refine UnaryOp_ (wpAny_mono (ha g E ρ l hp s _ I h) (fun v' s' h' => ?_) fun _ _ x => x)
  obtain ⟨ρ₁, v, hp₁, x₁, r₁, I₁, h₁⟩ := h'
  cases v with
  | int i => obtain ⟨t, rfl⟩ := r₁; exact neg_int (PostE.later x₁ (PostE.here I₁ (VR.int _ _) h₁ _))
  | none => exact h₁.elim
  | bool i => exact h₁.elim
  | str x => exact h₁.elim
  | ref k => exact h₁.elim
theorem se_rev {a e : PySem.Expr} {ea ee : EV} {p pos : Pos} (ha : SE W X (eval a X.env) ea) (he : SE W X (eval e X.env) ee) (hee : ∀ l h P, ee l h P = P (.int (-1)) h) :
    SE W X (eval (.Subscript a (.Slice none none (some e) p) pos) X.env) (eRev ea) := by
  intro g E ρ l hp s P I h
  refine Subscript_ (wpAny_mono (ha g E ρ l hp s _ I h) (fun va' s₁ h₁ => ?_) fun _ _ x => x)
  obtain ⟨ρ₁, va, hp₁, x₁, r₁, I₁, h₁⟩ := h₁
  refine wpAny_Slice (wpAny_evalPart_none (wpAny_evalPart_none (wpAny_evalPart_some ?_)))
  refine wpAny_mono (he g E ρ₁ l hp₁ s₁ (fun v h => v = .int (-1) ∧ h = hp₁) I₁ (by rw [hee]; exact ⟨rfl, rfl⟩)) (fun vk s₃ h₃ => ?_) fun _ _ x => x
  obtain ⟨ρ₃, vv, hp₃, x₃, r₃, I₃, e1, e2⟩ := h₃
  subst e1 e2
  obtain ⟨tk, rfl⟩ := r₃
  have I₄ := I₃.keep (h' := s₃.heap.push { cls := .type "slice", data := .fields #[.none, .none, .int (-1) tk] }) (fun b o e => Heap.get?_push_of_some _ e) s₃.toks
  have hsl : (s₃.heap.push { cls := .type "slice", data := .fields #[.none, .none, .int (-1) tk] }).get? s₃.heap.objs.size = some { cls := .type "slice", data := .fields #[.none, .none, .int (-1) tk] } := Heap.get?_push_size _ rfl
  have r₁' := r₁.ext x₃
  cases va with
  | ref k =>
    obtain ⟨xs, ⟨e1, e2⟩, h₃⟩ := h₁
    obtain ⟨q, vs, n, _, rfl, g, r⟩ := I₄.listR e1 r₁'
    refine tail_any (isList_of g).typeIs slot_list_getitem.lookup (wpAny_getItem_list_slice (isList_of g) ⟨_, hsl, rfl, rfl⟩ .none .none (.int _ _) (by intro e; cases e) ?_ (by rw [List.size_toArray, ← r.length]; exact sizeLine_ge e2)) rfl
    rw [krv_pick]
    exact PostE.later (x₁.trans x₃) (PostE.newList I₄ r.reverse h₃ _)
  | none => exact h₁.elim
  | bool i => exact h₁.elim
  | str x => exact h₁.elim
  | int i => exact h₁.elim

/-! arguments, displays -/
noncomputable def esNil : EVs := fun _ h P => P [] h
noncomputable def esCons (a : EV) (b : EVs) : EVs := fun l h P => a l h fun v h1 => b l h1 fun vs h2 => P (v :: vs) h2
noncomputable def eList (a : EVs) : EV := fun l h P => a l h fun vs h1 => vs.length ≤ 2 ^ 20 ∧ P (.ref h1.length) (h1 ++ [.list vs])
noncomputable def eTup (a : EVs) : EV := fun l h P => a l h fun vs h1 => vs.length ≤ 2 ^ 20 ∧ P (.ref h1.length) (h1 ++ [.tup vs])
noncomputable abbrev SAs (W : Wd) (X : Fx) (pos : Pos) (es : List PySem.Expr) (ev : EVs) : Prop := SEs W X (spliced (backTo pos (starEach es X.env))) ev
theorem ses_nil {pos : Pos} : SAs W X pos [] esNil := fun _ _ ρ _ hp _ _ I h => Calls.spliced_nil ⟨ρ, [], hp, Ext.refl _, .nil, I, h⟩
theorem ses_cons {pos : Pos} {e : PySem.Expr} {es : List PySem.Expr} {a : EV} {b : EVs} (ha : SE W X (eval e X.env) a) (hb : SAs W X pos es b)
    (hns : starEach (e :: es) X.env = (false, eval e X.env) :: starEach es X.env) : SAs W X pos (e :: es) (esCons a b) := by
  intro g E ρ l hp s P I h
  rw [hns]
  show wpAny _ _ (spliced ((false, eval e X.env) :: backTo pos (starEach es X.env))) _ _ _
  refine Calls.spliced_cons (wpAny_mono (ha g E ρ l hp s _ I h) (fun v' s₁ h₁ => ?_) fun _ _ x => x)
  obtain ⟨ρ₁, v, hp₁, x₁, r₁, I₁, h₁⟩ := h₁
  refine wpAny_mono (hb g E ρ₁ l hp₁ s₁ _ I₁ h₁) (fun vs' s₂ h₂ => ?_) fun _ _ x => x
  obtain ⟨ρ₂, vs, hp₂, x₂, r₂, I₂, h₂⟩ := h₂
  exact ⟨ρ₂, v :: vs, hp₂, x₁.trans x₂, .cons (r₁.ext x₂) r₂, I₂, h₂⟩
theorem se_list {pos : Pos} {es : List PySem.Expr} {a : EVs} (h : SAs W X pos es a) : SE W X (eval (.List es pos) X.env) (eList a) := by
  intro g E ρ l hp s P I hh
  refine List_ (wpAny_mono (h g E ρ l hp s _ I hh) (fun vs' s₁ h₁ => ?_) fun _ _ x => x)
  obtain ⟨ρ₁, vs, hp₁, x₁, r₁, I₁, h₁, h₂⟩ := h₁
  exact wpAny_newList (PostE.later x₁ (PostE.newList I₁ r₁ h₂ _)) (by rw [← r₁.length]; exact sizeLine_ge h₁)
theorem se_tup {pos : Pos} {k : Nat} {es : List PySem.Expr} {a : EVs} (h : SAs W X pos es a) : SE W X (eval (.Tuple es k pos) X.env) (eTup a) := by
  intro g E ρ l hp s P I hh
  refine Tuple_ (wpAny_mono (h g E ρ l hp s _ I hh) (fun vs' s₁ h₁ => ?_) fun _ _ x => x)
  obtain ⟨ρ₁, vs, hp₁, x₁, r₁, I₁, h₁, h₂⟩ := h₁
  exact wpAny_newTuple (PostE.later x₁ (PostE.newTup I₁ r₁ h₂ _)) (by rw [← r₁.length]; exact sizeLine_ge h₁)
end
end Mine
end

noncomputable section -- L1e
open PySem PySem.W PySem.Calls PyProof.Rows
set_option maxRecDepth 100000
set_option autoImplicit false
namespace Mine

section
variable {W : Wd} {X : Fx} {g : Gx} {ρ : Rho} {l : Loc} {hp : List O} {s : Shared} {E : Value → Shared → Prop}

/-! stores -/
theorem nodup_get {α : Type} : ∀ {xs : List α} {i j : Nat} {x : α}, xs.Nodup → xs[i]? = some x → xs[j]? = some x → i = j
  | [], _, _, _, _, h, _ => by simp at h
  | y :: r, i, j, x, hn, hi, hj => by
    obtain ⟨h1, h2⟩ := List.nodup_cons.mp hn
    cases i with
    | zero =>
      cases j with
      | zero => rfl
      | succ j =>
        simp only [List.getElem?_cons_zero, Option.some.injEq] at hi
        simp only [List.getElem?_cons_succ] at hj
        exact absurd (List.mem_of_getElem? hj) (hi ▸ h1)
    | succ i =>
      cases j with
      | zero =>
        simp only [List.getElem?_cons_zero, Option.some.injEq] at hj
        simp only [List.getElem?_cons_succ] at hi
        exact absurd (List.mem_of_getElem? hi) (hj ▸ h1)
      | succ j =>
        simp only [List.getElem?_cons_succ] at hi hj
        rw [nodup_get h2 hi hj]
/-- a list changed in its place -/
theorem Inv.turn (I : Inv W X g ρ l hp s) {k : Nat} {p : Addr × Addr} {vs ws : List Value} {n : Nat} {ys : List V} (hk : ρ[k]? = some p) (hg : s.heap.get? p.1 = some (listOf (List.toArray vs) n)) {f : Array Value → Array Value}
    (hf : f vs.toArray = ws.toArray) (r : VRs ρ ys ws) (t : Nat) : Inv W X g ρ l (hp.set k (.list ys)) { s with heap := s.heap.update p.1 (Obj.mapSeq f), toks := t } := by
  have q := PySem.IsL.update hg f
  refine I.upd (o := .list ys) hk (.inl rfl) (fun ob e => ?_) ⟨ws, _, by rw [hf] at q; exact q, r⟩ t
  rw [hg] at e; cases e
  rfl
theorem Inv.store (I : Inv W X g ρ l hp s) {d : Nat} (O : X.Ok W d) {i : Nat} {x : Str} (hi : X.names[i]? = some x) {v : V} {v' : Value} (hv : VR ρ v v') {m : Str → Option Value} (lr : LR X.names ρ l m)
    (F : Fr X.h₀ X.L s.heap m) {h' : Heap} (hn : h'.Ns X.L (fun y => if y = x then some v' else m y)) (hs : Heap.SameBut X.L s.heap h') (t : Nat) : Inv W X g ρ (l.set i (some v)) hp { s with heap := h', toks := t } := by
  refine ⟨⟨_, F.set hn hs, fun j y u hj hu => ?_⟩, I.hr.keep fun b o hb e => (hs.2 b hb).trans e, I.os, I.gens, I.gx⟩
  by_cases hij : i = j
  · subst hij
    rw [hi] at hj; cases hj
    have hl : i < l.length := by
      have := (List.getElem?_eq_some_iff.mp hu).1
      rwa [List.length_set] at this
    rw [List.getElem?_set_self hl] at hu
    cases hu
    exact ⟨v', by simp, hv⟩
  · rw [List.getElem?_set_ne hij] at hu
    obtain ⟨u', h1, h2⟩ := lr j y u hj hu
    have : y ≠ x := fun e => hij (nodup_get O.nodup hi (e ▸ hj))
    exact ⟨u', by simp [this, h1], h2⟩

noncomputable abbrev TW := V → Loc → List O → (Loc → List O → Prop) → Prop
noncomputable def STgt (W : Wd) (X : Fx) (tgt : PySem.Expr) (tw : TW) : Prop := ∀ (g : Gx) (E : Value → Shared → Prop) (ρ : Rho) (l : Loc) (hp : List O) (s : Shared) (P : Loc → List O → Prop) (v : V) (v' : Value),
  Inv W X g ρ l hp s → VR ρ v v' → tw v l hp P → wpAny W.M X.A (assign tgt X.env v') (fun _ s' => ∃ ρ' l' h', Ext ρ ρ' ∧ Inv W X g ρ' l' h' s' ∧ P l' h') E s
noncomputable def tNm (i : Nat) : TW := fun v l h P => P (l.set i (some v)) h
noncomputable def tPair (i j : Nat) : TW := fun v l h P => match v with
  | .ref k => Got2 (fun a b => h[k]? = some (.tup [a, b]) ∨ h[k]? = some (.list [a, b])) fun a b => P ((l.set i (some a)).set j (some b)) h
  | _ => False

theorem store_name (O : ∃ d, X.Ok W d) {x : Str} {i : Nat} (hi : X.names[i]? = some x) {v : V} {v' : Value} (I : Inv W X g ρ l hp s) (hv : VR ρ v v') {Q : Unit → Shared → Prop}
    (h : ∀ s', Inv W X g ρ (l.set i (some v)) hp s' → Q () s') : wpAny W.M X.A (storeName X.env x v') Q E s := by
  obtain ⟨d, O⟩ := O
  obtain ⟨m, F, lr⟩ := I.fr
  refine wpAny_storeName_local (O.names i x hi).1 F.ns (fun h' hn hs => h _ (I.store O hi hv lr F hn hs _)) ?_
  show (X.cs.kind == .class || (X.cs.kind == .module && X.L != mainGlobals)) = false
  rw [O.kind]; rfl
theorem tg_nm {d : Nat} (O : X.Ok W d) {x : Str} {i : Nat} (hi : X.names[i]? = some x) {pos : Pos} : STgt W X (.Name x pos) (tNm i) := by
  intro g E ρ l hp s P v v' I hv h
  exact wpAny_assign_Name (store_name ⟨d, O⟩ hi I hv fun s' I' => ⟨ρ, _, hp, Ext.refl _, I', h⟩)
theorem tg_pair {d : Nat} (O : X.Ok W d) {x y : Str} {i j : Nat} (hi : X.names[i]? = some x) (hj : X.names[j]? = some y) {p q pos : Pos} {k : Nat} : STgt W X (.Tuple [.Name x p, .Name y q] k pos) (tPair i j) := by
  intro g E ρ l hp s P v v' I hv h
  have fin : ∀ (a b : V) (vs : List Value) (h' : Heap), VRs ρ [a, b] vs → (∀ b o, s.heap.get? b = some o → h'.get? b = some o) → P ((l.set i (some a)).set j (some b)) hp →
      wpAny W.M X.A (assignInOrder ((assignEach [.Name x p, .Name y q] X.env).map (·.2)) vs) (fun _ s' => ∃ ρ' l' h', Ext ρ ρ' ∧ Inv W X g ρ' l' h' s' ∧ P l' h') E { s with heap := h' } := by
    intro a b vs h' hvs hk hP
    cases hvs with
    | cons ra rest =>
      cases rest with
      | cons rb rest =>
        cases rest
        have I₁ := I.keep hk s.toks
        refine wpAny_assignInOrder_more (wpAny_assign_Name (store_name ⟨d, O⟩ hi I₁ ra fun s₂ I₂ => ?_))
        refine wpAny_assignInOrder_more (wpAny_assign_Name (store_name ⟨d, O⟩ hj I₂ rb fun s₃ I₃ => ?_))
        exact wpAny_assignInOrder_none ⟨ρ, _, hp, Ext.refl _, I₃, hP⟩
  cases v with
  | ref kk =>
    obtain ⟨a, b, e, hP⟩ := h
    rcases e with e | e
    · obtain ⟨pp, vs, n, _, rfl, gg, r⟩ := I.tupR e hv
      have T : s.heap.IsTuple pp.1 vs.toArray := ⟨_, gg, rfl, n, rfl⟩
      refine wpAny_assign_Tuple O.handled T ?_ rfl fun h' hx => ?_
      · rw [List.size_toArray, ← r.length]; rfl
      · exact fin a b vs h' r (fun b o e => hx b o (Nat.ne_of_lt (Heap.lt_size e)) e) hP
    · obtain ⟨pp, vs, n, _, rfl, gg, r⟩ := I.listR e hv
      rw [assign_Tuple]
      refine wpAny_bind (wpAny_standAt ?_)
      unfold unpack
      refine wpAny_bind (wpAny_holding ?_)
      have hl := r.length
      rw [show ((assignEach [.Name x p, .Name y q] X.env).length) = vs.toArray.size by rw [List.size_toArray, ← hl]; rfl, show (assignEach [PySem.Expr.Name x p, .Name y q] X.env).findIdx? (·.1) = none from rfl]
      refine kun_itemsOf O.handled (isList_of gg) fun h' hx => ?_
      exact fin a b vs h' r (fun b o e => hx b o (Nat.ne_of_lt (Heap.lt_size e)) e) hP
  | none => exact h.elim
  | bool b => exact h.elim
  | int i => exact h.elim
  | str x => exact h.elim

/-! statements -/
noncomputable def sPass : ST := fun l h P => P .next l h
noncomputable def sSeq (a b : ST) : ST := fun l h P => a l h fun o l1 h1 => match o with
  | .next => b l1 h1 P
  | o => P o l1 h1
noncomputable def sAsg (i : Nat) (e : EV) : ST := fun l h P => e l h fun v h1 => P .next (l.set i (some v)) h1
noncomputable def sTgt (t : TW) (e : EV) : ST := fun l h P => e l h fun v h1 => t v l h1 fun l2 h2 => P .next l2 h2
noncomputable def augW (op : Operator) (v w : V) (K : Int → Prop) : Prop := onInt v fun x => onInt w fun y => match op with
  | .Add => K (x + y)
  | .Sub => K (x - y)
  | _ => False
noncomputable def sAug (i : Nat) (op : Operator) (e : EV) : ST := fun l h P => Got (fun v => l[i]? = some (some v)) fun v => e l h fun w h1 => augW op v w fun z => P .next (l.set i (some (.int z))) h1
noncomputable def sExp (e : EV) : ST := fun l h P => e l h fun _ h1 => P .next l h1
noncomputable def sRet (e : EV) : ST := fun l h P => e l h fun v h1 => P (.ret v) l h1
noncomputable def sIf (t : BV) (a b : ST) : ST := fun l h P => t l h fun c h1 => match c with | true => a l h1 P | false => b l h1 P
noncomputable def sBrk : ST := fun l h P => P .brk l h
noncomputable def sCont : ST := fun l h P => P .cont l h
/-- xs[i] = v -/
noncomputable def sPut (e o i : EV) : ST := fun l h P => e l h fun v h1 => o l h1 fun o h2 => i l h2 fun i h3 => match o, i with
  | .ref k, .int i => Got (fun xs => h3[k]? = some (.list xs) ∧ 0 ≤ i ∧ i < xs.length ∧ small i) fun xs => P .next l (h3.set k (.list (xs.set i.toNat v)))
  | _, _ => False

theorem ss_nil : SS W X (execs [] X.env) sPass := fun _ _ ρ l hp _ _ I h => wpAny_execs_nil ⟨ρ, .next, l, hp, Ext.refl _, rfl, I, h⟩
theorem ss_cons {st : Stmt} {rest : List Stmt} {a b : ST} (ha : SS W X (exec st X.env) a) (hb : SS W X (execs rest X.env) b) : SS W X (execs (st :: rest) X.env) (sSeq a b) := by
  intro g E ρ l hp s P I h
  refine wpAny_execs_cons (wpAny_mono (ha g E ρ l hp s _ I h) (fun f s' h' => ?_) fun _ _ x => x)
  obtain ⟨ρ₁, o, l₁, hp₁, x₁, r₁, I₁, h₁⟩ := h'
  cases o with
  | next =>
    cases r₁
    exact wpAny_mono (hb g E ρ₁ l₁ hp₁ s' P I₁ h₁) (fun _ _ h => PostS.later x₁ h) fun _ _ x => x
  | brk => cases r₁; exact ⟨ρ₁, .brk, l₁, hp₁, x₁, rfl, I₁, h₁⟩
  | cont => cases r₁; exact ⟨ρ₁, .cont, l₁, hp₁, x₁, rfl, I₁, h₁⟩
  | ret v => obtain ⟨v', rfl, r⟩ := r₁; exact ⟨ρ₁, .ret v, l₁, hp₁, x₁, ⟨v', rfl, r⟩, I₁, h₁⟩
theorem ss_asg {d : Nat} (O : X.Ok W d) {x : Str} {i : Nat} (hi : X.names[i]? = some x) {e : PySem.Expr} {ev : EV} {p pos : Pos} (he : SE W X (eval e X.env) ev) (hs : swapsWith e (some (.Name x p)) pos.line X.env = pure false) :
    SS W X (exec (.Assign [.Name x p] e pos) X.env) (sAsg i ev) := by
  intro g E ρ l hp s P I h
  refine wpAny_Assign_Name (wpAny_mono (he g E ρ l hp s _ I h) (fun v' s' h' => ?_) fun _ _ x => x) hs
  obtain ⟨ρ₁, v, hp₁, x₁, r₁, I₁, h₁⟩ := h'
  exact store_name ⟨d, O⟩ hi I₁ r₁ fun s' I' => ⟨ρ₁, .next, _, hp₁, x₁, rfl, I', h₁⟩
theorem ss_pair {es : List PySem.Expr} {k : Nat} {e : PySem.Expr} {ev : EV} {t : TW} {p pos : Pos} (he : SE W X (eval e X.env) ev) (ht : STgt W X (.Tuple es k p) t)
    (hs : swapsWithSole [.Tuple es k p] e pos.line X.env = pure false) (hw : swappedStores [.Tuple es k p] e X.env = pure none) : SS W X (exec (.Assign [.Tuple es k p] e pos) X.env) (sTgt t ev) := by
  intro g E ρ l hp s P I h
  refine Assign_Tuple (wpAny_mono (he g E ρ l hp s _ I h) (fun v' s' h' => ?_) fun _ _ x => x) hs hw
  obtain ⟨ρ₁, v, hp₁, x₁, r₁, I₁, h₁⟩ := h'
  refine wpAny_mono (ht g E ρ₁ l hp₁ s' _ v v' I₁ r₁ h₁) (fun _ s'' h'' => ?_) fun _ _ x => x
  obtain ⟨ρ₂, l₂, hp₂, x₂, I₂, h₂⟩ := h''
  exact ⟨ρ₂, .next, l₂, hp₂, x₁.trans x₂, rfl, I₂, h₂⟩
theorem ss_aug {d : Nat} (O : X.Ok W d) {x : Str} {i : Nat} (hi : X.names[i]? = some x) {op : Operator} {e : PySem.Expr} {ev : EV} {p pos : Pos} (he : SE W X (eval e X.env) ev) :
    SS W X (exec (.AugAssign (.Name x p) op e pos) X.env) (sAug i op ev) := by
  intro g E ρ l hp s P I h
  obtain ⟨v, hv, h⟩ := h
  obtain ⟨m, F, lr⟩ := I.fr
  obtain ⟨v', hm, hr⟩ := lr i x v hi hv
  refine wpAny_AugAssign_Name (wpAny_loadName_local O.kind (O.names i x hi).1 F.ns hm (wpAny_mono (he g E ρ l hp s _ I h) (fun w' s' h' => ?_) fun _ _ x => x))
  obtain ⟨ρ₁, w, hp₁, x₁, r₁, I₁, h₁⟩ := h'
  have hr' := hr.ext x₁
  obtain ⟨x, t, rfl, rfl, h₁⟩ := onInt_inv h₁ hr'
  obtain ⟨y, u, rfl, rfl, h₁⟩ := onInt_inv h₁ r₁
  cases op with
  | Add =>
    exact PyProof.Rows.iadd_int (store_name ⟨d, O⟩ hi (I₁.toks _) (VR.int _ _) fun s' I' => ⟨ρ₁, .next, _, hp₁, x₁, rfl, I', h₁⟩)
  | Sub =>
    exact isub_int (store_name ⟨d, O⟩ hi (I₁.toks _) (VR.int _ _) fun s' I' => ⟨ρ₁, .next, _, hp₁, x₁, rfl, I', h₁⟩)
  | _ => exact False.elim h₁
theorem ss_exp {e : PySem.Expr} {ev : EV} {pos : Pos} (he : SE W X (eval e X.env) ev) (hi : interactive X.env = false) (hs : swapsWith e none pos.line X.env = pure false) : SS W X (exec (.Expr e pos) X.env) (sExp ev) := by
  intro g E ρ l hp s P I h
  refine wpAny_Expr_any (wpAny_mono (he g E ρ l hp s _ I h) (fun v' s' h' => ?_) fun _ _ x => x) hi hs
  obtain ⟨ρ₁, v, hp₁, x₁, r₁, I₁, h₁⟩ := h'
  exact ⟨ρ₁, .next, l, hp₁, x₁, rfl, I₁, h₁⟩
theorem ss_ret {e : PySem.Expr} {ev : EV} {pos : Pos} (he : SE W X (eval e X.env) ev) : SS W X (exec (.Return (some e) pos) X.env) (sRet ev) := by
  intro g E ρ l hp s P I h
  refine wpAny_Return_some (wpAny_mono (he g E ρ l hp s _ I h) (fun v' s' h' => ?_) fun _ _ x => x)
  obtain ⟨ρ₁, v, hp₁, x₁, r₁, I₁, h₁⟩ := h'
  exact ⟨ρ₁, .ret v, l, hp₁, x₁, ⟨v', rfl, r₁⟩, I₁, h₁⟩
theorem ss_if {t : PySem.Expr} {body orelse : List Stmt} {b : BV} {x y : ST} {pos : Pos} (ht : ST? W X t b) (hx : SS W X (execs body X.env) x) (hy : SS W X (execs orelse X.env) y) : SS W X (exec (.If t body orelse pos) X.env) (sIf b x y) := by
  intro g E ρ l hp s P I h
  refine wpAny_If (wpAny_mono (ht g E ρ l hp s _ I h) (fun c s' h' => ?_) fun _ _ x => x)
  obtain ⟨ρ₁, hp₁, x₁, I₁, h₁⟩ := h'
  cases c with
  | true => exact wpAny_mono (hx g E ρ₁ l hp₁ s' P I₁ h₁) (fun _ _ h => PostS.later x₁ h) fun _ _ x => x
  | false => exact wpAny_mono (hy g E ρ₁ l hp₁ s' P I₁ h₁) (fun _ _ h => PostS.later x₁ h) fun _ _ x => x
theorem ss_brk {pos : Pos} : SS W X (exec (.Break pos) X.env) sBrk := fun _ _ ρ l hp _ _ I h => wpAny_Break ⟨ρ, .brk, l, hp, Ext.refl _, rfl, I, h⟩
theorem ss_cont {pos : Pos} : SS W X (exec (.Continue pos) X.env) sCont := fun _ _ ρ l hp _ _ I h => wpAny_Continue ⟨ρ, .cont, l, hp, Ext.refl _, rfl, I, h⟩
theorem ss_put {e o i : PySem.Expr} {ee eo ei : EV} {p pos : Pos} (he : SE W X (eval e X.env) ee) (ho : SE W X (eval o X.env) eo) (hi : SE W X (eval i X.env) ei)
    (hs : swapsWith e (some (.Subscript o i p)) pos.line X.env = pure false) : SS W X (exec (.Assign [.Subscript o i p] e pos) X.env) (sPut ee eo ei) := by
  intro g E ρ l hp s P I h
  refine wpAny_Assign_Subscript (wpAny_mono (he g E ρ l hp s _ I h) (fun v' s₁ h₁ => ?_) fun _ _ x => x) hs
  obtain ⟨ρ₁, v, hp₁, x₁, r₁, I₁, h₁⟩ := h₁
  refine wpAny_mono (ho g E ρ₁ l hp₁ s₁ _ I₁ h₁) (fun o' s₂ h₂ => ?_) fun _ _ x => x
  obtain ⟨ρ₂, ov, hp₂, x₂, r₂, I₂, h₂⟩ := h₂
  refine wpAny_mono (hi g E ρ₂ l hp₂ s₂ _ I₂ h₂) (fun i' s₃ h₃ => ?_) fun _ _ x => x
  obtain ⟨ρ₃, iv, hp₃, x₃, r₃, I₃, h₃⟩ := h₃
  split at h₃
  · obtain ⟨xs, ⟨e1, e2, e3, e4⟩, h₃⟩ := h₃
    rename_i kk ii
    obtain ⟨q, vs, n, hq, rfl, gg, r⟩ := I₃.listR e1 (r₂.ext x₃)
    obtain ⟨t, rfl⟩ := r₃
    have hl := r.length
    refine ki_setAt gg e2 (by unfold small at e4; omega) (by rw [List.size_toArray, ← hl]; exact e3) ?_
    have I₄ := I₃.turn hq gg (f := (·.setIfInBounds ii.toNat v')) (ws := vs.set ii.toNat v') (by simp) (r.set ((r₁.ext x₂).ext x₃) _) s₃.toks
    exact ⟨ρ₃, .next, l, _, x₁.trans (x₂.trans x₃), rfl, I₄, h₃⟩
  · exact h₃.elim
end
end Mine
end

noncomputable section -- L1f
open PySem PySem.W PySem.Calls PyProof.Rows
set_option maxRecDepth 100000
set_option autoImplicit false
namespace Mine

section
variable {W : Wd} {X : Fx} {g : Gx} {ρ : Rho} {l : Loc} {hp : List O} {s : Shared} {E : Value → Shared → Prop}

/-! while -/
noncomputable def whileN (t : BV) (b : ST) : Nat → ST
  | 0 => fun _ _ _ => False
  | n + 1 => fun l h P => t l h fun c h1 => match c with
    | false => P .next l h1
    | true => b l h1 fun o l2 h2 => match o with
      | .next => whileN t b n l2 h2 P
      | .cont => whileN t b n l2 h2 P
      | .brk => P .next l2 h2
      | .ret v => P (.ret v) l2 h2
noncomputable def sWhile (t : BV) (b : ST) : ST := fun l h P => ∃ n, whileN t b n l h P

theorem no_passes : PassesOwn W.M X.A X.env (fun _ _ => False) := fun _ _ h => h.elim
theorem while_sound {t : PySem.Expr} {body : List Stmt} {b : BV} {x : ST} (ht : ST? W X t b) (hx : SS W X (execs body X.env) x) {P : Out → Loc → List O → Prop} {ρ₀ : Rho} :
    ∀ (n : Nat) (ρ : Rho) (l : Loc) (hp : List O) (s : Shared), Ext ρ₀ ρ → Inv W X g ρ l hp s → whileN b x n l hp P →
      WhlRest W.prog W.w X.A (fun _ _ => False) X.env t body [] (PostS W X g ρ₀ P) 0 s
  | 0, _, _, _, _, _, _, h => h.elim
  | n + 1, ρ, l, hp, s, x₀, I, h => by
    refine whl_turn (k := 0) no_passes (wpAny_mono (ht g _ ρ l hp s _ I h) (fun c s₁ h₁ => ?_) fun _ _ x => x)
    obtain ⟨ρ₁, hp₁, x₁, I₁, h₁⟩ := h₁
    cases c with
    | false => exact WhlIf.no rfl (wpAny_execs_nil ⟨ρ₁, .next, l, hp₁, x₀.trans x₁, rfl, I₁, h₁⟩)
    | true =>
      refine WhlIf.yes rfl (wpAny_mono (hx g _ ρ₁ l hp₁ s₁ _ I₁ h₁) (fun f s₂ h₂ => ?_) fun _ _ x => x)
      obtain ⟨ρ₂, o, l₂, hp₂, x₂, r₂, I₂, h₂⟩ := h₂
      have xx := x₀.trans (x₁.trans x₂)
      cases o with
      | next => cases r₂; exact while_sound ht hx n ρ₂ l₂ hp₂ s₂ xx I₂ h₂
      | cont => cases r₂; exact while_sound ht hx n ρ₂ l₂ hp₂ s₂ xx I₂ h₂
      | brk => cases r₂; exact ⟨ρ₂, .next, l₂, hp₂, xx, rfl, I₂, h₂⟩
      | ret v => obtain ⟨v', rfl, r⟩ := r₂; exact ⟨ρ₂, .ret v, l₂, hp₂, xx, ⟨v', rfl, r⟩, I₂, h₂⟩
theorem ss_while {t : PySem.Expr} {body : List Stmt} {b : BV} {x : ST} {pos : Pos} (ht : ST? W X t b) (hx : SS W X (execs body X.env) x) : SS W X (exec (.While t body [] pos) X.env) (sWhile b x) := by
  rintro g E ρ l hp s P I ⟨n, h⟩
  exact wpAny_mono (whl_start 0 (while_sound ht hx n ρ l hp s (Ext.refl _) I h)) (fun _ _ x => x) fun _ _ x => x.elim

/-! for -/
theorem Inv.addExt (I : Inv W X g ρ l hp s) {o : Obj} (hf : o.isFreed = false) (t : Nat) : Inv W X ⟨(s.heap.objs.size, o) :: g.ext, g.gx⟩ ρ l hp { s with heap := s.heap.push o, toks := t } := by
  have k : ∀ b ob, s.heap.get? b = some ob → (s.heap.push o).get? b = some ob := fun b ob e => Heap.get?_push_of_some _ e
  have J := I.keep k t
  refine ⟨J.fr, ⟨J.hr.len, J.hr.objs, J.hr.own, J.hr.sep, fun e he => ?_⟩, J.os, J.gens, J.gx⟩
  rcases List.mem_cons.mp he with rfl | he
  · refine ⟨Heap.get?_push_size _ hf, Nat.ne_of_gt I.Llt, ?_, fun k p hk => ?_⟩
    · cases q : X.h₀.get? s.heap.objs.size with
      | none => rfl
      | some o' => exact absurd (Heap.lt_size (I.old _ _ q)) (Nat.lt_irrefl _)
    · obtain ⟨_, _, o1, z1⟩ := I.hr.own k p hk p.1 (.inl rfl)
      obtain ⟨_, _, o2, z2⟩ := I.hr.own k p hk p.2 (.inr rfl)
      exact ⟨Nat.ne_of_gt (Heap.lt_size z1), Nat.ne_of_gt (Heap.lt_size z2)⟩
  · exact J.hr.ext e he
theorem Inv.updExt {it : Addr} {o o' : Obj} {e : List (Addr × Obj)} {gx : List (Nat × GenState)} (I : Inv W X ⟨(it, o) :: e, gx⟩ ρ l hp s) (ne : ∀ x ∈ e, x.1 ≠ it) {h' : Heap} (hs : Heap.ExtBut it s.heap h') (ho : h'.get? it = some o') (t : Nat) :
    Inv W X ⟨(it, o') :: e, gx⟩ ρ l hp { s with heap := h', toks := t } := by
  obtain ⟨i1, i2, i3, i4⟩ := I.hr.ext (it, o) (.head _)
  obtain ⟨m, F, lr⟩ := I.fr
  have neL : X.L ≠ it := fun q => i2 q.symm
  refine ⟨⟨m, ⟨F.ns.extBut hs neL, fun b ob q => hs b ob (fun z => by subst z; rw [i3] at q; cases q) (F.keep b ob q), F.above⟩, lr⟩, ⟨I.hr.len, fun k p o hk ho' => ?_, fun k p hk b hb => ?_, I.hr.sep, fun x hx => ?_⟩, I.os, I.gens, I.gx⟩
  · obtain ⟨j1, j2⟩ := i4 k p hk
    exact (I.hr.objs k p o hk ho').heap W.C (fun o q => hs _ o (Ne.symm j1) q) (fun o q => hs _ o (Ne.symm j2) q)
  · obtain ⟨j1, j2⟩ := i4 k p hk
    obtain ⟨a, b', ob, c⟩ := I.hr.own k p hk b hb
    refine ⟨a, b', ob, hs b ob ?_ c⟩
    rcases hb with rfl | rfl
    · exact Ne.symm j1
    · exact Ne.symm j2
  · rcases List.mem_cons.mp hx with rfl | hx
    · exact ⟨ho, i2, i3, i4⟩
    · obtain ⟨a, b, c, d⟩ := I.hr.ext x (.tail _ hx)
      exact ⟨hs _ _ (ne x hx) a, b, c, d⟩
theorem Inv.dropExt {x : Addr × Obj} {e : List (Addr × Obj)} {gx : List (Nat × GenState)} (I : Inv W X ⟨x :: e, gx⟩ ρ l hp s) : Inv W X ⟨e, gx⟩ ρ l hp s :=
  ⟨I.fr, ⟨I.hr.len, I.hr.objs, I.hr.own, I.hr.sep, fun y hy => I.hr.ext y (.tail _ hy)⟩, I.os, I.gens, I.gx⟩
theorem Inv.endExt {it : Addr} {o : Obj} {e : List (Addr × Obj)} {gx : List (Nat × GenState)} (I : Inv W X ⟨(it, o) :: e, gx⟩ ρ l hp s) (ne : ∀ x ∈ e, x.1 ≠ it) {h' : Heap} (hs : Heap.ExtBut it s.heap h') (t : Nat) :
    Inv W X ⟨e, gx⟩ ρ l hp { s with heap := h', toks := t } := by
  obtain ⟨i1, i2, i3, i4⟩ := I.hr.ext (it, o) (.head _)
  obtain ⟨m, F, lr⟩ := I.fr
  have neL : X.L ≠ it := fun q => i2 q.symm
  refine ⟨⟨m, ⟨F.ns.extBut hs neL, fun b ob q => hs b ob (fun z => by subst z; rw [i3] at q; cases q) (F.keep b ob q), F.above⟩, lr⟩, ⟨I.hr.len, fun k p o hk ho' => ?_, fun k p hk b hb => ?_, I.hr.sep, fun x hx => ?_⟩, I.os, I.gens, I.gx⟩
  · obtain ⟨j1, j2⟩ := i4 k p hk
    exact (I.hr.objs k p o hk ho').heap W.C (fun o q => hs _ o (Ne.symm j1) q) (fun o q => hs _ o (Ne.symm j2) q)
  · obtain ⟨j1, j2⟩ := i4 k p hk
    obtain ⟨a, b', ob, c⟩ := I.hr.own k p hk b hb
    refine ⟨a, b', ob, hs b ob ?_ c⟩
    rcases hb with rfl | rfl
    · exact Ne.symm j1
    · exact Ne.symm j2
  · obtain ⟨a, b, c, d⟩ := I.hr.ext x (.tail _ hx)
    exact ⟨hs _ _ (ne x hx) a, b, c, d⟩

noncomputable abbrev Nxt := Nat → List O → Option V → Prop
noncomputable def forN (nx : Nxt) (t : TW) (b : ST) : Nat → Nat → ST
  | 0, _ => fun _ _ _ => False
  | n + 1, i => fun l h P => Got (fun r => nx i h r) fun r => match r with
    | none => P .next l h
    | some v => t v l h fun l1 h1 => b l1 h1 fun o l2 h2 => match o with
      | .next => forN nx t b n (i + 1) l2 h2 P
      | .cont => forN nx t b n (i + 1) l2 h2 P
      | .brk => P .next l2 h2
      | .ret v => P (.ret v) l2 h2

/-- an iterator's object at its i-th place, what it yields -/
structure IterR (W : Wd) (X : Fx) (it : Addr) (tgt : PySem.Expr) (nx : Nxt) (is : Rho → Nat → Obj → Prop) : Prop where
  ext : ∀ {ρ ρ' : Rho} {i : Nat} {o : Obj}, Ext ρ ρ' → is ρ i o → is ρ' i o
  some : ∀ {g : Gx} {ρ : Rho} {l : Loc} {hp : List O} {s : Shared} {i : Nat} {o : Obj} {v : V} {E : Value → Shared → Prop} {Q : Option Value → Shared → Prop}, (∀ x ∈ g.ext, x.1 ≠ it) → Inv W X ⟨(it, o) :: g.ext, g.gx⟩ ρ l hp s → is ρ i o → nx i hp (.some v) →
    (∀ v' o' s', VR ρ v v' → is ρ (i + 1) o' → Inv W X ⟨(it, o') :: g.ext, g.gx⟩ ρ l hp s' → Q (.some v') s') → wpAny W.M X.A (pyNext (.ref it)) Q E s
  none : ∀ {g : Gx} {ρ : Rho} {l : Loc} {hp : List O} {s : Shared} {i : Nat} {o : Obj} {E : Value → Shared → Prop} {Q : Option Value → Shared → Prop}, (∀ x ∈ g.ext, x.1 ≠ it) → Inv W X ⟨(it, o) :: g.ext, g.gx⟩ ρ l hp s → is ρ i o → nx i hp .none →
    (∀ s', Inv W X g ρ l hp s' → Q .none s') → wpAny W.M X.A (pyNext (.ref it)) Q E s
  go : ∀ {ρ : Rho} {i : Nat} {o : Obj} {s : Shared} {v : V} {v' : Value} {E : Value → Shared → Prop} {Q : Unit → Shared → Prop}, is ρ i o → s.heap.get? it = .some o → VR ρ v v' → Q () s → wpAny W.M X.A (letOwnedTupleGo tgt (.ref it) v') Q E s

theorem for_sound {it : Addr} {tgt : PySem.Expr} {nx : Nxt} {is : Rho → Nat → Obj → Prop} (R : IterR W X it tgt nx is) {body : List Stmt} {t : TW} {x : ST} (ht : STgt W X tgt t) (hx : SS W X (execs body X.env) x) {P : Out → Loc → List O → Prop} {ρ₀ : Rho}
    (ne : ∀ x ∈ g.ext, x.1 ≠ it) {E' : Value → Shared → Prop} {n i : Nat} {o : Obj} (x₀ : Ext ρ₀ ρ) (I : Inv W X ⟨(it, o) :: g.ext, g.gx⟩ ρ l hp s) (hi : is ρ i o) (h : forN nx t x n i l hp P) :
    codeAny W.M X.A (.forLoop tgt (.ref it) body [] X.env) (fun r s' => match r with | .ok f => PostS W X g ρ₀ P f s' | .error e => E' e s') s := by
  refine codeAny_forLoop_any (fun n s => ∃ ρ l hp i o, Ext ρ₀ ρ ∧ Inv W X ⟨(it, o) :: g.ext, g.gx⟩ ρ l hp s ∧ is ρ i o ∧ forN nx t x n i l hp P) ?_ n ⟨ρ, l, hp, i, o, x₀, I, hi, h⟩
  rintro n s ⟨ρ, l, hp, i, o, x₀, I, hi, h⟩
  cases n with
  | zero => exact h.elim
  | succ n =>
    obtain ⟨r, hr, h⟩ := h
    cases r with
    | none =>
      refine R.none ne I hi hr fun s' I' => ?_
      exact wpAny_execs_nil ⟨ρ, .next, l, hp, x₀, rfl, I', h⟩
    | some v =>
      refine R.some ne I hi hr fun v' o' s' hv hi' I' => ?_
      refine R.go hi' (I'.hr.ext _ (.head _)).1 hv ?_
      refine wpAny_mono (ht _ _ ρ l hp s' _ v v' I' hv h) (fun _ s₁ h₁ => ?_) fun _ _ x => x
      obtain ⟨ρ₁, l₁, hp₁, x₁, I₁, h₁⟩ := h₁
      refine wpAny_mono (hx _ _ ρ₁ l₁ hp₁ s₁ _ I₁ h₁) (fun f s₂ h₂ => ?_) fun _ _ x => x
      obtain ⟨ρ₂, oo, l₂, hp₂, x₂, r₂, I₂, h₂⟩ := h₂
      have xx := x₀.trans (x₁.trans x₂)
      cases oo with
      | next => cases r₂; exact ⟨n, Nat.lt_succ_self _, ρ₂, l₂, hp₂, i + 1, o', xx, I₂, R.ext (x₁.trans x₂) hi', h₂⟩
      | cont => cases r₂; exact ⟨n, Nat.lt_succ_self _, ρ₂, l₂, hp₂, i + 1, o', xx, I₂, R.ext (x₁.trans x₂) hi', h₂⟩
      | brk => cases r₂; exact ⟨ρ₂, .next, l₂, hp₂, xx, rfl, I₂.dropExt, h₂⟩
      | ret u => obtain ⟨u', rfl, r⟩ := r₂; exact ⟨ρ₂, .ret u, l₂, hp₂, xx, ⟨u', rfl, r⟩, I₂.dropExt, h₂⟩

/-! the iterators -/
noncomputable def nxL (k : Nat) : Nxt := fun i h r => ∃ xs, h[k]? = some (.list xs) ∧ r = xs[i]?
noncomputable def nxS (x : List Nat) : Nxt := fun i _ r => r = (x[i]?).map fun c => .str [c]
noncomputable def nxR (a b : Int) : Nxt := fun i _ r => r = if a + i < b then some (.int (a + i)) else none
noncomputable def isL (k : Nat) (ρ : Rho) (i : Nat) (o : Obj) : Prop := ∃ p, ρ[k]? = some p ∧ o.cls = .type "list_iterator" ∧ o.data = .fields #[.ref p.1, .int i 0]
noncomputable def isS (x : List Nat) (t : Tok) (_ : Rho) (i : Nat) (o : Obj) : Prop := o.cls = .type (strIterType ⟨x.toArray⟩) ∧ o.data = .fields #[.str ⟨x.toArray⟩ t, .int i 0]
noncomputable def isR (a b : Int) (_ : Rho) (i : Nat) (o : Obj) : Prop := o = { cls := .type "range_iterator", dict := none, data := .fields #[rawInt (a + i), rawInt ((b - a).toNat - i), rawInt 1], slots := #[] }

theorem go_name {x : Str} {pos : Pos} {it v : Value} {Q : Unit → Shared → Prop} (h : Q () s) : wpAny W.M X.A (letOwnedTupleGo (.Name x pos) it v) Q E s := wpAny_pure h
theorem go_if {ns : List String} {n : String} {b : Bool} {t : Sem Unit} {Q : Unit → Shared → Prop} (hn : ns.contains n = false) (h : Q () s) : wpAny W.M X.A (if (ns.contains n && b) = true then t else pure ()) Q E s := by
  rw [hn, Bool.false_and]
  exact wpAny_pure h
theorem go_listiter {tgt : PySem.Expr} {it l : Addr} {i : Nat} {v' : Value} {Q : Unit → Shared → Prop} (hit : s.heap.IsListIter it l i) (h : Q () s) : wpAny W.M X.A (letOwnedTupleGo tgt (.ref it) v') Q E s := by
  obtain ⟨o, ho, hc, hd⟩ := hit
  cases tgt with
  | Tuple => cases v' with
    | ref a =>
      refine wpAny_bind (wpAny_load ho ?_)
      rw [hc, hd]
      exact go_if (by decide) h
    | _ => exact wpAny_pure h
  | List => cases v' with
    | ref a =>
      refine wpAny_bind (wpAny_load ho ?_)
      rw [hc, hd]
      exact go_if (by decide) h
    | _ => exact wpAny_pure h
  | _ => exact wpAny_pure h

theorem iter_list {d : Nat} (O : X.Ok W d) {it : Addr} {tgt : PySem.Expr} {k : Nat} : IterR W X it tgt (nxL k) (isL k) where
  ext := fun x ⟨p, a, b⟩ => ⟨p, x.get a, b⟩
  some := by
    rintro g ρ l hp s i o v E Q ne I ⟨p, hp1, hc, hd⟩ ⟨xs, e, hv⟩ hQ
    obtain ⟨q, vs, n, hq, gg, r⟩ := I.list e
    rw [hp1] at hq; cases hq
    have ho := (I.hr.ext _ (.head _)).1
    obtain ⟨v', hv', rv⟩ := r.get hv.symm
    refine wpAny_pyNext_list_item ⟨o, ho, hc, hd⟩ (isList_of gg) (by simpa using hv') fun h' hit hs => ?_
    obtain ⟨o', ho', hc', hd'⟩ := hit
    exact hQ v' o' _ rv ⟨p, hp1, hc', hd'⟩ (I.updExt ne hs.extBut ho' s.toks)
  none := by
    rintro g ρ l hp s i o E Q ne I ⟨p, hp1, hc, hd⟩ ⟨xs, e, hv⟩ hQ
    obtain ⟨q, vs, n, hq, gg, r⟩ := I.list e
    rw [hp1] at hq; cases hq
    have ho := (I.hr.ext _ (.head _)).1
    have hlen := r.length
    refine wpAny_pyNext_list_end O.handled ⟨o, ho, hc, hd⟩ (isList_of gg) ?_ fun h' hs => hQ _ (I.endExt ne hs s.toks)
    have : xs.length ≤ i := List.getElem?_eq_none_iff.mp hv.symm
    simp; lia
  go := by
    rintro ρ i o s v v' E Q ⟨p, hp1, hc, hd⟩ ho hv h
    exact go_listiter ⟨o, ho, hc, hd⟩ h

theorem iter_str {d : Nat} (O : X.Ok W d) {it : Addr} {x : Str} {pos : Pos} {y : List Nat} {t : Tok} : IterR W X it (.Name x pos) (nxS y) (isS y t) where
  ext := fun _ h => h
  some := by
    rintro g ρ l hp s i o v E Q ne I ⟨hc, hd⟩ hv hQ
    have ho := (I.hr.ext _ (.head _)).1
    unfold nxS at hv
    cases hy : y[i]? with
    | none => rw [hy] at hv; cases hv
    | some c =>
      rw [hy] at hv
      cases hv
      have hx : (⟨y.toArray⟩ : Str).cps[i]? = some c := by simpa using hy
      unfold strIterType at hc
      cases ha : (⟨y.toArray⟩ : Str).cps.all (· < 128) with
      | true =>
        rw [ha, if_pos rfl] at hc
        refine wpAny_pyNext_ascii_item ⟨o, ho, hc, hd⟩ hx fun h' hit hs => ?_
        obtain ⟨o', ho', hc', hd'⟩ := hit
        exact hQ _ o' _ (VR.str [c] _) ⟨by unfold strIterType; rw [ha, if_pos rfl]; exact hc', hd'⟩ (I.updExt ne hs.extBut ho' _)
      | false =>
        rw [ha, if_neg Bool.false_ne_true] at hc
        refine wpAny_pyNext_wide_item ⟨o, ho, hc, hd⟩ hx fun h' hit hs => ?_
        obtain ⟨o', ho', hc', hd'⟩ := hit
        exact hQ _ o' _ (VR.str [c] _) ⟨by unfold strIterType; rw [ha, if_neg Bool.false_ne_true]; exact hc', hd'⟩ (I.updExt ne hs.extBut ho' _)
  none := by
    rintro g ρ l hp s i o E Q ne I ⟨hc, hd⟩ hv hQ
    have ho := (I.hr.ext _ (.head _)).1
    unfold nxS at hv
    cases hy : y[i]? with
    | some c => rw [hy] at hv; cases hv
    | none =>
      have hx : (⟨y.toArray⟩ : Str).cps[i]? = none := by simpa using hy
      unfold strIterType at hc
      cases ha : (⟨y.toArray⟩ : Str).cps.all (· < 128) with
      | true =>
        rw [ha, if_pos rfl] at hc
        exact wpAny_pyNext_ascii_end O.handled ⟨o, ho, hc, hd⟩ hx fun h' hs => hQ _ (I.endExt ne hs s.toks)
      | false =>
        rw [ha, if_neg Bool.false_ne_true] at hc
        exact wpAny_pyNext_wide_end O.handled ⟨o, ho, hc, hd⟩ hx fun h' hs => hQ _ (I.endExt ne hs s.toks)
  go := fun _ _ _ h => go_name h

theorem iter_rng {d : Nat} (O : X.Ok W d) {it : Addr} {x : Str} {pos : Pos} {a b : Int} : IterR W X it (.Name x pos) (nxR a b) (isR a b) where
  ext := fun _ h => h
  some := by
    rintro g ρ l hp s i o v E Q ne I rfl hv hQ
    have ho := (I.hr.ext _ (.head _)).1
    unfold nxR at hv
    split at hv
    · rename_i hlt
      cases hv
      refine wpAny_pyNext_range_item ho (by lia) fun h' hit hs => ?_
      refine hQ _ _ _ (VR.int _ _) ?_ (I.updExt ne hs.extBut hit _)
      unfold isR
      have e1 : a + (i : Int) + 1 = a + ((i + 1 : Nat) : Int) := by lia
      have e2 : ((b - a).toNat : Int) - i - 1 = ((b - a).toNat : Int) - ((i + 1 : Nat) : Int) := by lia
      rw [e1, e2]
    · cases hv
  none := by
    rintro g ρ l hp s i o E Q ne I rfl hv hQ
    have ho := (I.hr.ext _ (.head _)).1
    unfold nxR at hv
    split at hv
    · cases hv
    · exact wpAny_pyNext_range_end O.handled ho (by lia) fun h' hs => hQ _ (I.endExt ne hs s.toks)
  go := fun _ _ _ h => go_name h

/-! for statements: over a list, a text, a range -/
noncomputable def sForL (e : EV) (t : TW) (b : ST) : ST := fun l h P => e l h fun v h1 => match v with
  | .ref k => (∃ xs, h1[k]? = some (.list xs)) ∧ ∃ n, forN (nxL k) t b n 0 l h1 P
  | _ => False
noncomputable def sForS (e : EV) (t : TW) (b : ST) : ST := fun l h P => e l h fun v h1 => match v with
  | .str x => ∃ n, forN (nxS x) t b n 0 l h1 P
  | _ => False
noncomputable def sForR (e : EV) (t : TW) (b : ST) : ST := fun l h P => e l h fun v h1 => match v with
  | .ref k => Got2 (fun a c => h1[k]? = some (.rng a c) ∧ small a ∧ small c) fun a c => ∃ n, forN (nxR a c) t b n 0 l h1 P
  | _ => False
theorem ext_fresh (I : Inv W X g ρ l hp s) : ∀ x ∈ g.ext, x.1 ≠ s.heap.objs.size := fun x hx => Nat.ne_of_lt (Heap.lt_size (I.hr.ext x hx).1)
theorem ss_forL {d : Nat} (O : X.Ok W d) {tgt e : PySem.Expr} {body : List Stmt} {ev : EV} {t : TW} {x : ST} {pos : Pos} (he : SE W X (eval e X.env) ev) (ht : STgt W X tgt t) (hx : SS W X (execs body X.env) x)
    (hs : ∀ y, foldedSetIterable e X.env y = pure y) : SS W X (exec (.For tgt e body [] pos) X.env) (sForL ev t x) := by
  intro g E ρ l hp s P I h
  refine wpAny_For (wpAny_mono (he g E ρ l hp s _ I h) (fun v' s₁ h₁ => ?_) fun _ _ x => x) hs
  obtain ⟨ρ₁, v, hp₁, x₁, r₁, I₁, h₁⟩ := h₁
  cases v with
  | ref k =>
    obtain ⟨⟨xs, e1⟩, n, h₁⟩ := h₁
    obtain ⟨p, vs, m, hp1, rfl, gg, r⟩ := I₁.listR e1 r₁
    refine wpAny_pyIter_list (isList_of gg) ?_
    exact for_sound (iter_list O) ht hx (ext_fresh I₁) x₁ (I₁.addExt rfl s₁.toks) ⟨p, hp1, rfl, rfl⟩ h₁
  | none => exact h₁.elim
  | bool b => exact h₁.elim
  | int i => exact h₁.elim
  | str x => exact h₁.elim
theorem ss_forS {d : Nat} (O : X.Ok W d) {y : Str} {p : Pos} {e : PySem.Expr} {body : List Stmt} {ev : EV} {t : TW} {x : ST} {pos : Pos} (he : SE W X (eval e X.env) ev) (ht : STgt W X (.Name y p) t) (hx : SS W X (execs body X.env) x)
    (hs : ∀ y, foldedSetIterable e X.env y = pure y) : SS W X (exec (.For (.Name y p) e body [] pos) X.env) (sForS ev t x) := by
  intro g E ρ l hp s P I h
  refine wpAny_For (wpAny_mono (he g E ρ l hp s _ I h) (fun v' s₁ h₁ => ?_) fun _ _ x => x) hs
  obtain ⟨ρ₁, v, hp₁, x₁, r₁, I₁, h₁⟩ := h₁
  cases v with
  | str z =>
    obtain ⟨n, h₁⟩ := h₁
    obtain ⟨tk, rfl⟩ := r₁
    refine wpAny_pyIter_strU ?_
    exact for_sound (iter_str (t := tk) O) ht hx (ext_fresh I₁) x₁ (I₁.addExt rfl s₁.toks) ⟨rfl, rfl⟩ h₁
  | none => exact h₁.elim
  | bool b => exact h₁.elim
  | int i => exact h₁.elim
  | ref x => exact h₁.elim
theorem ss_forR {d : Nat} (O : X.Ok W d) {y : Str} {p : Pos} {e : PySem.Expr} {body : List Stmt} {ev : EV} {t : TW} {x : ST} {pos : Pos} (he : SE W X (eval e X.env) ev) (ht : STgt W X (.Name y p) t) (hx : SS W X (execs body X.env) x)
    (hs : ∀ y, foldedSetIterable e X.env y = pure y) : SS W X (exec (.For (.Name y p) e body [] pos) X.env) (sForR ev t x) := by
  intro g E ρ l hp s P I h
  refine wpAny_For (wpAny_mono (he g E ρ l hp s _ I h) (fun v' s₁ h₁ => ?_) fun _ _ x => x) hs
  obtain ⟨ρ₁, v, hp₁, x₁, r₁, I₁, h₁⟩ := h₁
  cases v with
  | ref k =>
    obtain ⟨a, c, ⟨e1, sa, sc⟩, n, h₁⟩ := h₁
    obtain ⟨p, hp1, tt, u, v, gg⟩ := I₁.hr.at e1
    obtain ⟨q, hq, rfl⟩ := r₁
    rw [hp1] at hq; cases hq
    have hsz : Builtin.Range.rangeSize a c 1 = ((c - a).toNat : Int) := by
      unfold Builtin.Range.rangeSize
      rw [if_pos (by decide)]
      split <;> lia
    refine wpAny_pyIter_range gg (by unfold small at sa sc; unfold Builtin.Range.small; rw [hsz]; simp only [Builtin.Range.rangeFitsLong, Bool.and_eq_true, Bool.or_eq_true, decide_eq_true_eq, beq_iff_eq, show ((1 : Int) > 0) by decide, if_true]; lia) ?_
    refine for_sound (iter_rng (a := a) (b := c) O) ht hx (ext_fresh I₁) x₁ (I₁.addExt rfl s₁.toks) ?_ h₁
    unfold isR
    rw [hsz]
    simp
  | none => exact h₁.elim
  | bool b => exact h₁.elim
  | int i => exact h₁.elim
  | str x => exact h₁.elim
end
end Mine
end

noncomputable section -- L1g
open PySem PySem.W PySem.Calls PyProof.Rows
set_option maxRecDepth 100000
set_option autoImplicit false
namespace Mine

section
variable {W : Wd} {X : Fx} {g : Gx} {ρ : Rho} {l : Loc} {hp : List O} {s : Shared} {E : Value → Shared → Prop}

/-! calls of built-ins by their names -/
noncomputable abbrev FW := List V → List O → (V → List O → Prop) → Prop
noncomputable def eApp (f : FW) (args : EVs) : EV := fun l h P => args l h fun vs h1 => f vs h1 P
/-- a call of a value known to be so: what the call does -/
noncomputable def OpF (W : Wd) (X : Fx) (fv : Value) (f : FW) : Prop := ∀ (g : Gx) (E : Value → Shared → Prop) (ρ : Rho) (l : Loc) (hp : List O) (s : Shared) (P : V → List O → Prop) (vs : List V) (vs' : List Value),
  Inv W X g ρ l hp s → VRs ρ vs vs' → f vs hp P → wpAny W.M X.A (call fv vs') (PostE W X g ρ l P) E s

/-- a global name of the text -/
structure IsGlob (W : Wd) (X : Fx) (x : Str) (v : Value) : Prop where
  K : nsIn W.K mainGlobals x = some (some v)
  kind : X.cs.names.lookup x = some .globalImplicit
  nd : (x == ("__debug__" : Str)) = false
structure IsBoot (W : Wd) (X : Fx) (x : Str) (v : Value) : Prop where
  K : nsIn W.K mainGlobals x = some none
  boot : bootBuiltins x = some v
  nn : x ≠ "__name__"
  kind : X.cs.names.lookup x = some .globalImplicit
  nd : (x == ("__debug__" : Str)) = false

theorem ev_glob {d : Nat} (O : X.Ok W d) {x : Str} {v : Value} (G : IsGlob W X x v) {pos : Pos} {Q : Value → Shared → Prop} (I : Inv W X g ρ l hp s) (h : Q v s) : wpAny W.M X.A (eval (.Name x pos) X.env) Q E s := by
  obtain ⟨m, F, _⟩ := I.fr
  exact nameX_K F O.K (topRead_of O.T) G.K h O.kind G.kind G.nd
theorem ev_boot {d : Nat} (O : X.Ok W d) {x : Str} {v : Value} (G : IsBoot W X x v) {pos : Pos} {Q : Value → Shared → Prop} (I : Inv W X g ρ l hp s) (h : Q v s) : wpAny W.M X.A (eval (.Name x pos) X.env) Q E s := by
  obtain ⟨m, F, _⟩ := I.fr
  exact nameX_B F O.K (topRead_of O.T) G.K G.boot G.nn h O.kind G.kind G.nd

/-- no starred arguments, one at the least -/
structure NoStar (X : Fx) (e : PySem.Expr) (rest : List PySem.Expr) (pos : Pos) : Prop where
  one : starEach (e :: rest) X.env = (false, eval e X.env) :: starEach rest X.env
  any : (backTo pos (starEach rest X.env)).any (·.1) = false

/-- what may be called so -/
inductive CallV (W : Wd) : Value → Prop
  | builtin (id : String) : CallV W (.builtin id)
  | type (T : String) : CallV W (.type T)
  | fn (a : Addr) : keepIn W.K (.ref a) = true → CallV W (.ref a)
inductive ArgsS (W : Wd) (X : Fx) (pos : Pos) : List PySem.Expr → EVs → Prop
  | nil : ArgsS W X pos [] esNil
  | cons {e : PySem.Expr} {rest : List PySem.Expr} {ea : EVs} : NoStar X e rest pos → SAs W X pos (e :: rest) ea → ArgsS W X pos (e :: rest) ea

theorem callV_sound {d : Nat} (ok : X.Ok W d) {fv : Value} (C : CallV W fv) {f : FW} (hf : OpF W X fv f) {args : List PySem.Expr} {ea : EVs} {pos : Pos} (N : ArgsS W X pos args ea) {first : List V} {first' : List Value}
    (rf : VRs ρ first first') {P : V → List O → Prop} (I : Inv W X g ρ l hp s) (h : ea l hp fun vs h2 => f (first ++ vs) h2 P) : wpAny W.M X.A (callWith pos fv first' (backTo pos (starEach args X.env)) []) (PostE W X g ρ l P) E s := by
  cases N with
  | nil =>
    have go' : wpAny W.M X.A (call fv (first' ++ [])) (PostE W X g ρ l P) E s := hf g E ρ l hp s P _ _ I (rf.append .nil) h
    cases C with
    | builtin id => exact callWith_method0 (by simpa using go')
    | type T => exact PyProof.Rows.callWith_type rfl (evalArgs_nil3 go')
    | fn a hk => exact callWith_K0 (ok.K.keeps I.old) hk go'
  | cons N ha =>
    rename_i e rest
    have go : wpAny W.M X.A (spliced (backTo pos (starEach (e :: rest) X.env))) (fun vs' s₁ => W.K.In s₁.heap ∧ wpAny W.M X.A (call fv (first' ++ vs')) (PostE W X g ρ l P) E s₁) E s := by
      refine wpAny_mono (ha g E ρ l hp s _ I h) (fun vs' s₁ h₁ => ?_) fun _ _ x => x
      obtain ⟨ρ₁, vs, hp₁, x₁, r₁, I₁, h₁⟩ := h₁
      refine ⟨ok.K.keeps I₁.old, ?_⟩
      exact wpAny_mono (hf g E ρ₁ l hp₁ s₁ P _ _ I₁ ((rf.ext x₁).append r₁) h₁) (fun _ _ h => PostE.later x₁ h) fun _ _ x => x
    have hN := N.one
    have hb : backTo pos (starEach (e :: rest) X.env) = (false, eval e X.env) :: backTo pos (starEach rest X.env) := by rw [hN]; rfl
    have hp1 : (backTo pos (starEach (e :: rest) X.env)).any (·.1) = false := by
      rw [hb]; show (false || (backTo pos (starEach rest X.env)).any (·.1)) = false; rw [N.any]; rfl
    have go2 : wpAny W.M X.A (evalArgs fv true (backTo pos (starEach (e :: rest) X.env)) []) (fun a s₁ => wpAny W.M X.A (call fv (first' ++ a.pos) a.kw) (PostE W X g ρ l P) E s₁) E s := by
      rw [hb]
      refine evalArgs_plain ?_
      rw [← hb]
      exact wpAny_mono go (fun _ _ h => h.2) fun _ _ x => x
    cases C with
    | builtin id => exact callWith_builtin hp1 go2
    | type T => exact PyProof.Rows.callWith_type hp1 go2
    | fn a hk => exact callWith_K (h₀ := X.h₀) ok.K hk go N.one N.any

/-- a call by a name that stands at the top or is built in -/
noncomputable def IsName (W : Wd) (X : Fx) (x : Str) (v : Value) : Prop := IsGlob W X x v ∨ IsBoot W X x v
theorem ev_name {d : Nat} (ok : X.Ok W d) {x : Str} {v : Value} (G : IsName W X x v) {pos : Pos} {Q : Value → Shared → Prop} (I : Inv W X g ρ l hp s) (h : Q v s) : wpAny W.M X.A (eval (.Name x pos) X.env) Q E s :=
  G.elim (fun G => ev_glob ok G I h) (fun G => ev_boot ok G I h)
theorem se_app {d : Nat} (ok : X.Ok W d) {x : Str} {fv : Value} (G : IsName W X x fv) (C : CallV W fv) {f : FW} (hf : OpF W X fv f) {args : List PySem.Expr} {ea : EVs} {p pos : Pos} (N : ArgsS W X pos args ea) :
    SE W X (eval (.Call (.Name x p) args [] pos) X.env) (eApp f ea) := by
  intro g E ρ l hp s P I h
  exact wpAny_Call_ofName (ev_name ok G I (callV_sound ok C hf N (first := []) .nil I h))

/-- what a method's name means at a value -/
noncomputable def MethG (W : Wd) (X : Fx) (name : Str) (T : V → List O → Prop) (f : FW) : Prop := ∀ (g : Gx) (ρ : Rho) (l : Loc) (hp : List O) (s : Shared) (v : V) (v' : Value), Inv W X g ρ l hp s → VR ρ v v' → T v hp →
  ∃ fv, CallV W fv ∧ OpF W X fv f ∧ ∀ (E : Value → Shared → Prop) (pl : Sem Bool) (Q : Value × List Value → Shared → Prop), Q (fv, [v']) s → wpAny W.M X.A (getMethod v' name pl) Q E s
noncomputable def eMeth (T : V → List O → Prop) (f : FW) (eo : EV) (ea : EVs) : EV := fun l h P => eo l h fun v h1 => T v h1 ∧ ea l h1 fun vs h2 => f (v :: vs) h2 P
theorem se_meth {d : Nat} (ok : X.Ok W d) {o : PySem.Expr} {name : Str} {apos pos : Pos} {args : List PySem.Expr} {pl : Sem Bool} {eo : EV} {ea : EVs} {f : FW} {T : V → List O → Prop} (ho : SE W X (eval o X.env) eo) (N : ArgsS W X pos args ea) (hm : MethG W X name T f)
    (he : eval (.Call (.Attribute o name apos) args [] pos) X.env = (do
      let ov ← eval o X.env
      standAt apos.atName
      let (f, first) ← holding [ov] (getMethod ov name pl)
      callWith pos f first (backTo pos (starEach args X.env)) [])) :
    SE W X (eval (.Call (.Attribute o name apos) args [] pos) X.env) (eMeth T f eo ea) := by
  intro g E ρ l hp s P I h
  refine MethodCall_ (wpAny_mono (ho g E ρ l hp s _ I h) (fun v' s₁ h₁ => ?_) fun _ _ x => x) he
  obtain ⟨ρ₁, v, hp₁, x₁, r₁, I₁, hT, h₁⟩ := h₁
  obtain ⟨fv, C, hf, hget⟩ := hm g ρ₁ l hp₁ s₁ v v' I₁ r₁ hT
  refine hget _ _ _ ?_
  exact wpAny_mono (callV_sound ok C hf N (first := [v]) (.one r₁) I₁ h₁) (fun _ _ h => PostE.later x₁ h) fun _ _ x => x

/-- an object stored anew, by what the heap says -/
theorem Inv.updAt (I : Inv W X g ρ l hp s) {k : Nat} {p : Addr × Addr} (hk : ρ[k]? = some p) {b : Addr} (hb : b = p.1 ∨ b = p.2) {h' : Heap} (hs : Heap.SameBut b s.heap h') {o : O} {ob : Obj} (hob : h'.get? b = some ob)
    (ho : OAt W.C W.w.params ρ h' p o) (t : Nat) : Inv W X g ρ l (hp.set k o) { s with heap := h', toks := t } := by
  obtain ⟨m, F, lr⟩ := I.fr
  obtain ⟨nL, n0, _, _⟩ := I.hr.own k p hk b hb
  have other : ∀ c, c ≠ b → ∀ o, s.heap.get? c = some o → h'.get? c = some o := fun c ne o e => (hs.2 c ne).trans e
  obtain ⟨oL, es, ep, hL, r⟩ := F.ns
  refine ⟨⟨m, ⟨⟨oL, es, ep, other _ (Ne.symm nL) _ hL, r⟩, fun c o e => other c (fun q => by subst q; rw [n0] at e; cases e) o (F.keep c o e), F.above⟩, lr⟩, ⟨by simp [I.hr.len], fun i q o' e1 e2 => ?_, fun i q e c hc => ?_, I.hr.sep, fun e he => ?_⟩, I.os, I.gens, I.gx⟩
  · by_cases hi : i = k
    · subst hi
      rw [hk] at e1; cases e1
      have : o' = o := by
        have hl : i < hp.length := by rw [← I.hr.len]; exact (List.getElem?_eq_some_iff.mp hk).1
        rw [List.getElem?_set_self hl] at e2; exact (Option.some.inj e2).symm
      subst this; exact ho
    · rw [List.getElem?_set_ne (fun e => hi e.symm)] at e2
      obtain ⟨s1, s2, s3, s4⟩ := I.hr.sep i k q p hi e1 hk
      refine (I.hr.objs i q o' e1 e2).heap W.C (other _ ?_) (other _ ?_)
      · rcases hb with rfl | rfl
        · exact s1
        · exact s2
      · rcases hb with rfl | rfl
        · exact s3
        · exact s4
  · obtain ⟨x, y, ob', z⟩ := I.hr.own i q e c hc
    refine ⟨x, y, ?_⟩
    by_cases hcb : c = b
    · subst hcb; exact ⟨_, hob⟩
    · exact ⟨ob', other _ hcb _ z⟩
  · obtain ⟨x, y, z, u⟩ := I.hr.ext e he
    refine ⟨other _ ?_ _ x, y, z, u⟩
    obtain ⟨u1, u2⟩ := u k p hk
    rcases hb with rfl | rfl
    · exact u1
    · exact u2

/-! methods of lists -/
inductive isListV (v : V) (h : List O) : Prop
  | mk (k : Nat) (xs : List V) (_ : v = .ref k) (_ : h[k]? = some (.list xs))
noncomputable def isStrV (v : V) (_ : List O) : Prop := ∃ x, v = .str x
theorem meth_list {name : Str} {id : String} {f : FW} (slot : Slot "list" name id) (hty : typeOf (.builtin id) = pure (.type "method_descriptor")) (hf : OpF W X (.builtin id) f) : MethG W X name isListV f := by
  rintro g ρ l hp s v v' I r ⟨k, xs, rfl, e⟩
  obtain ⟨p, vs, n, hp1, rfl, gg, _⟩ := I.listR e r
  exact ⟨.builtin id, .builtin id, hf, fun E pl Q h => getMethod_builtin ⟨_, gg, rfl⟩ PySem.F.plainAttrs_list slot hty (fun a e => by cases e; exact ⟨_, gg, rfl⟩) h⟩
theorem meth_str {name : Str} {id : String} {f : FW} (slot : Slot "str" name id) (hty : typeOf (.builtin id) = pure (.type "method_descriptor")) (hf : OpF W X (.builtin id) f) : MethG W X name isStrV f := by
  rintro g ρ l hp s v v' I r ⟨x, rfl⟩
  obtain ⟨t, rfl⟩ := r
  exact ⟨.builtin id, .builtin id, hf, fun E pl Q h => getMethod_builtin (typeIs_str _ _ _) PySem.F.plainAttrs_str slot hty (fun a e => by cases e) h⟩

noncomputable def mAppend : FW := fun vs h P => on2 vs fun a v => onRef a fun k => Got (fun xs => h[k]? = some (.list xs) ∧ xs.length ≤ 2 ^ 20) fun xs => P .none (h.set k (.list (xs ++ [v])))
noncomputable def mInsert0 : FW := fun vs h P => on3 vs fun a b v => onRef a fun k => onInt b fun i => Got (fun xs => i = 0 ∧ h[k]? = some (.list xs) ∧ xs.length ≤ 2 ^ 20) fun xs => P .none (h.set k (.list (v :: xs)))
noncomputable def mPop : FW := fun vs h P => on1 vs fun a => onRef a fun k => Got2 (fun xs v => h[k]? = some (.list (xs ++ [v])) ∧ xs.length ≤ 2 ^ 20) fun xs v => P v (h.set k (.list xs))

theorem VRs.snoc_inv {ρ : Rho} : ∀ {xs : List V} {v : V} {vs : List Value}, VRs ρ (xs ++ [v]) vs → ∃ ws w, vs = ws ++ [w] ∧ VRs ρ xs ws ∧ VR ρ v w
  | [], v, vs, h => by
    cases h with
    | cons a b => cases b; exact ⟨[], _, rfl, .nil, a⟩
  | x :: xs, v, vs, h => by
    cases h with
    | cons a b =>
      obtain ⟨ws, w, rfl, c, d⟩ := VRs.snoc_inv b
      exact ⟨_ :: ws, w, rfl, .cons a c, d⟩
theorem op_append : OpF W X (.builtin "list.append") mAppend := by
  intro g E ρ l hp s P vs vs' I r h
  obtain ⟨a, v, a', v', rfl, ra, rv, h⟩ := on2_inv h r
  obtain ⟨k, rfl, xs, ⟨e1, e2⟩, h⟩ := onRef_inv h
  obtain ⟨p, ws, n, hp1, rfl, gg, rr⟩ := I.listR e1 ra
  refine append_at gg (fun h' hs ho' => ?_) (hsz := by rw [List.size_toArray, ← rr.length]; exact sizeLine_ge e2)
  exact ⟨ρ, .none, _, Ext.refl _, VR.none, I.updAt (o := .list (xs ++ [v])) hp1 (.inl rfl) hs ho' ⟨ws ++ [v'], n + 1, by rw [ho']; simp, rr.append (.one rv)⟩ s.toks, h⟩
theorem op_insert0 : OpF W X (.builtin "list.insert") mInsert0 := by
  intro g E ρ l hp s P vs vs' I r h
  obtain ⟨a, b, v, a', b', v', rfl, ra, rb, rv, h⟩ := on3_inv h r
  obtain ⟨k, rfl, h1⟩ := onRef_inv h
  obtain ⟨i, t, rfl, rfl, xs, ⟨rfl, e1, e2⟩, h2⟩ := onInt_inv h1 rb
  clear h h1
  obtain ⟨p, ws, n, hp1, rfl, gg, rr⟩ := I.listR e1 ra
  have hz : ws.toArray.size ≤ sizeLine := by rw [List.size_toArray, ← rr.length]; exact sizeLine_ge e2
  refine call_meets PySem.F.slot_list_insert ⟨_, gg, rfl⟩ PySem.F.entry_list_insert (PySem.F.args_list_insert_3 _ _ _) (AutoListH.list_insert_list_int_val_1 p.1 ws.toArray n 0 t v' (by decide) hz) ⟨gg, ?_⟩
  have I' := I.turn hp1 gg (ys := v :: xs) (ws := v' :: ws) (f := fun ys => have k := if (0 : Int) < 0 then ((0 : Int) + ((ys.size : Nat) : Int)).toNat else min (0 : Int).toNat ys.size; (ys.extract 0 k).push v' ++ ys.extract k) (by simp) (.cons rv rr) s.toks
  exact ⟨ρ, .none, _, Ext.refl _, VR.none, I', h2⟩
theorem op_pop : OpF W X (.builtin "list.pop") mPop := by
  intro g E ρ l hp s P vs vs' I r h
  obtain ⟨a, a', rfl, ra, h⟩ := on1_inv h r
  obtain ⟨k, rfl, xs, v, ⟨e1, e2⟩, h⟩ := onRef_inv h
  obtain ⟨p, ws, n, hp1, rfl, gg, rr⟩ := I.listR e1 ra
  obtain ⟨us, v', rfl, ru, rv⟩ := rr.snoc_inv
  have hz' : (us ++ [v']).toArray.size ≤ sizeLine := by
    rw [List.size_toArray, List.length_append, ← ru.length]
    exact Nat.le_trans (Nat.add_le_add_right e2 1) (by rw [sizeLine_eq]; decide)
  have hk : (us ++ [v']).toArray.size - 1 = us.length := by rw [List.size_toArray, List.length_append]; rfl
  have hy : (us ++ [v']).toArray[(us ++ [v']).toArray.size - 1]? = some v' := by rw [hk]; simp
  refine call_meets PySem.F.slot_list_pop ⟨_, gg, rfl⟩ PySem.F.entry_list_pop (PySem.F.args_list_pop_1 _) (PySem.MeetsSeq.list_pop_last p.1 _ n v' hy hz') ⟨gg, ?_⟩
  have I' := I.turn hp1 gg (ys := xs) (ws := us) (f := fun ys => ys.eraseIdxIfInBounds ((us ++ [v']).toArray.size - 1)) (by rw [hk, kl_erase, List.append_nil]) ru s.toks
  exact ⟨ρ, v, _, Ext.refl _, rv, I', h⟩
theorem m_append : MethG W X "append" isListV mAppend := meth_list PySem.F.slot_list_append PySem.F.type_list_append op_append
theorem m_insert0 : MethG W X "insert" isListV mInsert0 := meth_list PySem.F.slot_list_insert PySem.F.type_list_insert op_insert0
theorem m_pop : MethG W X "pop" isListV mPop := meth_list PySem.F.slot_list_pop PySem.F.type_list_pop op_pop

/-! built-ins -/
noncomputable def bLen : FW := fun vs h P => on1 vs fun a => match a with
  | .str x => x.length ≤ 2 ^ 20 ∧ P (.int x.length) h
  | .ref k => Got (fun xs => (h[k]? = some (.list xs) ∨ h[k]? = some (.tup xs)) ∧ xs.length ≤ 2 ^ 20) fun xs => P (.int xs.length) h
  | _ => False
noncomputable def bMax : FW := fun vs h P => on2 vs fun a b => onInt a fun a => onInt b fun b => P (.int (max a b)) h
noncomputable def bMin : FW := fun vs h P => on2 vs fun a b => onInt a fun a => onInt b fun b => P (.int (min a b)) h
noncomputable def bRange : FW := fun vs h P => match vs with
  | [b] => onInt b fun b => P (.ref h.length) (h ++ [.rng 0 b])
  | [a, b] => onInt a fun a => onInt b fun b => P (.ref h.length) (h ++ [.rng a b])
  | _ => False
noncomputable def bTuple : FW := fun vs h P => on1 vs fun a => onRef a fun k => Got (fun xs => h[k]? = some (.list xs) ∧ xs.length ≤ 2 ^ 20) fun xs => P (.ref h.length) (h ++ [.tup xs])
theorem op_len : OpF W X (.builtin "len") bLen := by
  intro g E ρ l hp s P vs vs' I r h
  obtain ⟨a, a', rfl, ra, h⟩ := on1_inv h r
  cases a with
  | str x =>
    obtain ⟨t, rfl⟩ := ra
    have hl : (⟨x.toArray⟩ : Str).length = x.length := by simp [Str.length]
    refine PyProof.Rows.len_str (by rw [hl]; exact Int.not_le.mpr (lt63 h.1)) ?_
    rw [hl]
    exact PostE.here I (VR.int _ _) h.2 _
  | ref k =>
    obtain ⟨xs, ⟨e1, e2⟩, h⟩ := h
    rcases e1 with e1 | e1
    · obtain ⟨p, ws, n, hp1, rfl, gg, rr⟩ := I.listR e1 ra
      rw [rr.length] at e2 h
      exact call_len_list (isList_of gg) (lt63 e2) (PostE.here I (VR.int _ _) h _)
    · obtain ⟨p, ws, n, hp1, rfl, gg, rr⟩ := I.tupR e1 ra
      rw [rr.length] at e2 h
      exact PyProof.Rows.len_tuple (items := ws.toArray) ⟨_, gg, rfl, n, rfl⟩ (lt63 e2) (PostE.here I (VR.int _ _) h _)
  | _ => exact False.elim h
theorem op_max {d : Nat} (ok : X.Ok W d) : OpF W X (.builtin "max") bMax := by
  intro g E ρ l hp s P vs vs' I r h
  obtain ⟨a, b, a', b', rfl, ra, rb, h⟩ := on2_inv h r
  obtain ⟨x, t, rfl, rfl, h⟩ := onInt_inv h ra
  obtain ⟨y, u, rfl, rfl, h⟩ := onInt_inv h rb
  refine max_two_ints ok.handled fun h' tk hk => ?_
  by_cases q : y > x
  · rw [if_pos q]
    rw [Int.max_eq_right (Int.le_of_lt q)] at h
    exact ⟨ρ, _, hp, Ext.refl _, VR.int _ _, I.keep hk tk, h⟩
  · rw [if_neg q]
    rw [Int.max_eq_left (Int.not_lt.mp q)] at h
    exact ⟨ρ, _, hp, Ext.refl _, VR.int _ _, I.keep hk tk, h⟩
theorem op_min {d : Nat} (ok : X.Ok W d) : OpF W X (.builtin "min") bMin := by
  intro g E ρ l hp s P vs vs' I r h
  obtain ⟨a, b, a', b', rfl, ra, rb, h⟩ := on2_inv h r
  obtain ⟨x, t, rfl, rfl, h⟩ := onInt_inv h ra
  obtain ⟨y, u, rfl, rfl, h⟩ := onInt_inv h rb
  refine min_two_ints ok.handled fun h' tk hk => ?_
  by_cases q : y < x
  · rw [if_pos q]
    rw [Int.min_eq_right (Int.le_of_lt q)] at h
    exact ⟨ρ, _, hp, Ext.refl _, VR.int _ _, I.keep hk tk, h⟩
  · rw [if_neg q]
    rw [Int.min_eq_left (Int.not_lt.mp q)] at h
    exact ⟨ρ, _, hp, Ext.refl _, VR.int _ _, I.keep hk tk, h⟩
theorem op_range : OpF W X (.type "range") bRange := by
  intro g E ρ l hp s P vs vs' I r h
  cases r with
  | nil => exact False.elim h
  | cons a r => cases r with
    | nil =>
      obtain ⟨x, t, rfl, rfl, h⟩ := onInt_inv h a
      exact call_range_1 ⟨_, _, _, Ext.snoc _ _, I.ref_new (_, _), I.push rfl _ (o := .rng 0 _) ⟨_, _, _, Heap.get?_push_size _ rfl⟩, h⟩
    | cons b r => cases r with
      | nil =>
        obtain ⟨x, t, rfl, rfl, h⟩ := onInt_inv h a
        obtain ⟨y, u, rfl, rfl, h⟩ := onInt_inv h b
        exact call_range_2 ⟨_, _, _, Ext.snoc _ _, I.ref_new (_, _), I.push rfl _ (o := .rng _ _) ⟨_, _, _, Heap.get?_push_size _ rfl⟩, h⟩
      | cons c r => exact False.elim h
theorem op_tuple : OpF W X (.type "tuple") bTuple := by
  intro g E ρ l hp s P vs vs' I r h
  obtain ⟨a, a', rfl, ra, h⟩ := on1_inv h r
  obtain ⟨k, rfl, xs, ⟨e1, e2⟩, h⟩ := onRef_inv h
  obtain ⟨p, ws, n, hp1, rfl, gg, rr⟩ := I.listR e1 ra
  refine call_tuple_list (isList_of gg) (fun h' hk => ?_) (by rw [List.size_toArray, ← rr.length]; exact sizeLine_ge e2)
  exact PostE.newTup (I.keep hk s.toks) rr h _
end
end Mine
end

noncomputable section -- L1h
open PySem PySem.W PySem.Calls PyProof.Rows
set_option maxRecDepth 100000
set_option autoImplicit false
namespace Mine

section
variable {C : Addr} {P : Params} {h₀ g₀ : Heap} {L L' : Addr} {ext : List (Addr × Obj)} {ρ : Rho} {hp : List O} {h h₁ : Heap}
/-- the same relation seen from another frame -/
theorem HR.rebase (H : HR C P h₀ L ext ρ hp h) (N : News g₀ L' h₁ (led h ρ ext)) : HR C P g₀ L' ext ρ hp h₁ := by
  have k : ∀ (k : Nat) (p : Addr × Addr) (b : Addr) (o : Obj), ρ[k]? = some p → b = p.1 ∨ b = p.2 → h.get? b = some o → h₁.get? b = some o := fun k p b o hk hb ho => (N _ (mem_led hk hb ho)).1
  refine ⟨H.len, fun i p o e1 e2 => (H.objs i p o e1 e2).heap C (fun o e => k i p _ o e1 (.inl rfl) e) (fun o e => k i p _ o e1 (.inr rfl) e), fun i p e b hb => ?_, H.sep, fun e he => ?_⟩
  · obtain ⟨x, y, ob, z⟩ := H.own i p e b hb
    have n := N _ (mem_led e hb z)
    exact ⟨n.2.1, n.2.2, ob, n.1⟩
  · obtain ⟨x, y, z, u⟩ := H.ext e he
    have q := N e (List.mem_append_right _ he)
    exact ⟨q.1, q.2.1, q.2.2, u⟩
end

noncomputable def defW (init : List V → Option Loc) (bw : ST) : FW := fun vs h P => Got (fun l => init vs = some l) fun l => bw l h fun o _ h' => match o with
  | .ret v => P v h'
  | .next => P .none h'
  | _ => False

/-- what a def of the text is -/
structure IsDef (W : Wd) (a : Addr) (qual : Str) (body : List Stmt) (scope : Scope) (nms : List Str) (init : List V → Option Loc) : Prop where
  fn : ∃ name params dV kV doc pm cdv ct oc an od osl, W.K.lookup a = some ⟨oc, od, .func (fnOf name qual params body scope dV kV doc pm an cdv ct), osl⟩ ∧ codeIn W.K cdv qual = true ∧
    ∀ (ρ : Rho) (vs : List V) (vs' : List Value) (s : Shared) (l : Loc), VRs ρ vs vs' → W.K.In s.heap → init vs = some l →
      ∃ binds, BindsTo s (fnOf name qual params body scope dV kV doc pm an cdv ct) ⟨vs', []⟩ binds ∧ (∀ y ∈ binds, scope.names.lookup y.1 = some .local) ∧ LR nms ρ l (fun y => binds.reverse.lookup y)
  co : scope.isCoroutine = false
  gen : scope.isGenerator = false
  kind : scope.kind = .function
  cell : ∀ x ∈ scope.names, x.2 ≠ .cell
  names : ∀ (i : Nat) (x : Str), nms[i]? = some x → scope.names.lookup x = some .local ∧ (x == ("__debug__" : Str)) = false
  nodup : nms.Nodup

section
variable {W : Wd} {X : Fx} {g : Gx} {ρ : Rho} {l : Loc} {hp : List O} {s : Shared} {E : Value → Shared → Prop}
theorem opf_def {d : Nat} {a : Addr} {qual : Str} {body : List Stmt} {scope : Scope} {nms : List Str} {init : List V → Option Loc} (D : IsDef W a qual body scope nms init) {bw : ST}
    (hb : ∀ X : Fx, X.Ok W d → X.cs = scope → X.names = nms → SS W X (execs body X.env) bw) (ok : X.Ok W (d + 1)) : OpF W X (.ref a) (defW init bw) := by
  rintro g E ρ l hp s P vs vs' I r ⟨l₀, hl₀, h⟩
  obtain ⟨name, params, dV, kV, doc, pm, cdv, ct, oc, an, od, osl, ho, hcd, hbind⟩ := D.fn
  obtain ⟨m, F, lr, N⟩ := I.frame
  obtain ⟨binds, hB, hloc, lr₀⟩ := hbind ρ vs vs' s l₀ r (ok.K.keeps I.old) hl₀
  refine wpAny_call ?_
  refine code_def (env := X.env) (ok.B (Nat.succ_pos _)) F ok.K N ok.T (Around.frames_deeper (ok.B (Nat.succ_pos _)).stack) rfl ok.kind ho hcd (by have := ok.depth; omega) hB hloc (fun gh L' h₁ FG F' N' B' K' T' => ?_) D.co D.gen D.kind D.cell
  let X' : Fx := { A₀ := X.A, base := X.base, outer := X.env :: X.outer, h₀ := gh, L := L', cn := qual, cs := scope, a := a, ccd := cdv, names := nms, os := X.os }
  have ok' : X'.Ok W d := {
    B := fun _ => B'
    K := K'
    T := T'
    kind := D.kind
    depth := by have := ok.depth; show X.A.depth + 1 + d < _; omega
    units := by have := ok.units; show X.A.units + 3 + 8 * d + 100 < _; omega
    handled := ok.handled
    names := D.names
    nodup := D.nodup
    low := F'.above }
  have I' : Inv W X' g ρ l₀ hp { s with heap := h₁, toks := s.toks + binds.length } := ⟨⟨_, F', lr₀⟩, I.hr.rebase N', I.os, I.gens, I.gx⟩
  refine wpAny_mono (hb X' ok' rfl rfl g _ ρ l₀ hp _ _ I' h) (fun f s' h' => ?_) fun _ _ x => x
  obtain ⟨ρ₁, o, l₁, hp₁, x₁, r₁, I₁, h₁'⟩ := h'
  obtain ⟨m₁, F₁, lr₁, N₁⟩ := I₁.frame
  refine ⟨L', m₁, _, F₁, N₁, fun F₂ N₂ => ?_⟩
  have I₂ : Inv W X g ρ₁ l hp₁ s' := ⟨⟨m, F₂, lr.ext x₁⟩, I₁.hr.rebase N₂, I₁.os, I₁.gens, I₁.gx⟩
  cases o with
  | next => cases r₁; exact ⟨ρ₁, .none, hp₁, x₁, rfl, I₂, h₁'⟩
  | ret v => obtain ⟨v', rfl, r⟩ := r₁; exact ⟨ρ₁, v, hp₁, x₁, r, I₂, h₁'⟩
  | brk => exact h₁'.elim
  | cont => exact h₁'.elim
end
end Mine
end

noncomputable section -- L1i
open PySem PySem.W PySem.Calls PyProof.Rows
set_option maxRecDepth 100000
set_option autoImplicit false
namespace Mine

section
variable {W : Wd} {X : Fx} {g : Gx} {ρ : Rho} {l : Loc} {hp : List O} {s : Shared} {E : Value → Shared → Prop}

/-- the call of a def, at any place of the stack above the frame -/
theorem code_of_def {d : Nat} {a : Addr} {qual : Str} {body : List Stmt} {scope : Scope} {nms : List Str} {init : List V → Option Loc} (D : IsDef W a qual body scope nms init) {bw : ST}
    (hb : ∀ X : Fx, X.Ok W d → X.cs = scope → X.names = nms → SS W X (execs body X.env) bw) {k : Nat} (ok : X.Ok W (k + 1)) {A' : Around} (hA : A'.frames = some (X.env :: X.outer)) (hdep : A'.depth + 1 + d < recursionLimit) (hun : A'.units + 3 + 8 * d + 100 < cLine) (hh : A'.handled = none)
    {P : V → List O → Prop} {vs : List V} {vs' : List Value} (I : Inv W X g ρ l hp s) (r : VRs ρ vs vs') (h : defW init bw vs hp P) {R : Result → Shared → Prop} (hR : ∀ v' s', PostE W X g ρ l P v' s' → R (.ok (.ret v')) s') :
    codeAny W.M A' (.call (.ref a) ⟨vs', []⟩) R s := by
  obtain ⟨l₀, hl₀, h⟩ := h
  obtain ⟨name, params, dV, kV, doc, pm, cdv, ct, oc, an, od, osl, ho, hcd, hbind⟩ := D.fn
  obtain ⟨m, F, lr, N⟩ := I.frame
  obtain ⟨binds, hB, hloc, lr₀⟩ := hbind ρ vs vs' s l₀ r (ok.K.keeps I.old) hl₀
  refine PySem.W.code_def (env := X.env) (ok.B (Nat.succ_pos _)) F ok.K N ok.T hA rfl ok.kind ho hcd (by omega) hB hloc (fun gh L' h₁ FG F' N' B' K' T' => ?_) D.co D.gen D.kind D.cell
  let X' : Fx := { A₀ := A', base := X.base, outer := X.env :: X.outer, h₀ := gh, L := L', cn := qual, cs := scope, a := a, ccd := cdv, names := nms, os := X.os }
  have ok' : X'.Ok W d := {
    B := fun _ => B'
    K := K'
    T := T'
    kind := D.kind
    depth := by show A'.depth + 1 + d < _; omega
    units := by show A'.units + 3 + 8 * d + 100 < _; omega
    handled := hh
    names := D.names
    nodup := D.nodup
    low := F'.above }
  have I' : Inv W X' g ρ l₀ hp { s with heap := h₁, toks := s.toks + binds.length } := ⟨⟨_, F', lr₀⟩, I.hr.rebase N', I.os, I.gens, I.gx⟩
  refine wpAny_mono (hb X' ok' rfl rfl g _ ρ l₀ hp _ _ I' h) (fun f s' h' => ?_) fun _ _ x => x
  obtain ⟨ρ₁, o, l₁, hp₁, x₁, r₁, I₁, h₁'⟩ := h'
  obtain ⟨m₁, F₁, lr₁, N₁⟩ := I₁.frame
  refine ⟨L', m₁, _, F₁, N₁, fun F₂ N₂ => hR _ _ ?_⟩
  have I₂ : Inv W X g ρ₁ l hp₁ s' := ⟨⟨m, F₂, lr.ext x₁⟩, I₁.hr.rebase N₂, I₁.os, I₁.gens, I₁.gx⟩
  cases o with
  | next => cases r₁; exact ⟨ρ₁, .none, hp₁, x₁, rfl, I₂, h₁'⟩
  | ret v => obtain ⟨v', rfl, r⟩ := r₁; exact ⟨ρ₁, v, hp₁, x₁, r, I₂, h₁'⟩
  | brk => exact h₁'.elim
  | cont => exact h₁'.elim

/-! the one class of the text whose instances are made -/
noncomputable def attrNo (i : Nat) (k : Str) : Prop := wsKeys[i]? = some k
theorem wsKeys_nodup : wsKeys.Nodup := by decide +kernel

theorem Inv.instR (I : Inv W X g ρ l hp s) {k : Nat} {xs : List V} (e : hp[k]? = some (.inst xs)) {v' : Value} (hv : VR ρ (.ref k) v') :
    ∃ p es n, ρ[k]? = some p ∧ v' = .ref p.1 ∧ p.2 ≠ p.1 ∧ s.heap.get? p.2 = some (dictOf es n) ∧ EntR W.w.params ρ wsKeys xs es ∧ PySem.W.InstAt s.heap p.1 (instObj W.C p.2) W.C (some (dictOf es n)) := by
  obtain ⟨p, hp1, es, n, a, b, c, d⟩ := I.hr.at e
  obtain ⟨q, hq, rfl⟩ := hv
  rw [hp1] at hq; cases hq
  exact ⟨p, es, n, hp1, rfl, b, c, d, ⟨a, rfl, rfl, c⟩⟩

/-- what the text's class says of an attribute of its instances' own -/
structure IsAttr (W : Wd) (k : Str) : Prop where
  get : plainGet W.K W.C k = true
  dict : hasDictIn W.K W.C = true
  no : ∃ attr, findIn W.K (.ref W.C) k = some attr ∧ noGet W.K attr = true
  set : findIn W.K (.ref W.C) "__setattr__" = some (some (.builtin "object.__setattr__"))
  over : plainOver W.K W.C = true
  taker : takerIn W.K W.C k = some none

theorem handed_VR {v : V} {v' : Value} (h : VR ρ v v') : handedIn v' = true := by
  cases v with
  | none => cases h; rfl
  | bool b => cases h; rfl
  | int i => obtain ⟨t, rfl⟩ := h; rfl
  | str x => obtain ⟨t, rfl⟩ := h; rfl
  | ref k => obtain ⟨p, _, rfl⟩ := h; rfl

noncomputable def eAttr (i : Nat) (o : EV) : EV := fun l h P => o l h fun v h1 => match v with
  | .ref k => Got2 (fun xs u => h1[k]? = some (.inst xs) ∧ xs[i]? = some u) fun _ u => P u h1
  | _ => False
theorem se_attr {d : Nat} (ok : X.Ok W d) {o : PySem.Expr} {k : Str} {i : Nat} {pos : Pos} {eo : EV} (ho : SE W X (eval o X.env) eo) (hk : wsKeys[i]? = some k) (A : IsAttr W k)
    (he : eval (.Attribute o k pos) X.env = (do
      let ov ← eval o X.env
      standAt pos.atName
      let r ← holding [ov] (getAttr ov k true)
      letTemporaryGo o ov r
      pure r)) : SE W X (eval (.Attribute o k pos) X.env) (eAttr i eo) := by
  intro g E ρ l hp s P I h
  refine Attribute_any_ (wpAny_mono (ho g E ρ l hp s _ I h) (fun v' s₁ h₁ => ?_) fun _ _ x => x) he
  obtain ⟨ρ₁, v, hp₁, x₁, r₁, I₁, h₁⟩ := h₁
  cases v with
  | ref j =>
    obtain ⟨xs, u, ⟨e1, e2⟩, h₁⟩ := h₁
    obtain ⟨p, es, n, _, rfl, _, _, en, IA⟩ := I₁.instR e1 r₁
    obtain ⟨u', hu, ru⟩ := en.get wsKeys_nodup hk e2
    obtain ⟨m, F, _⟩ := I₁.fr
    obtain ⟨attr, n1, n2⟩ := A.no
    exact get_own F ok.K IA A.get A.dict n1 n2 hu (handed_VR ru) (PostE.later x₁ (PostE.here I₁ ru h₁ _))
  | none => exact h₁.elim
  | bool b => exact h₁.elim
  | int i => exact h₁.elim
  | str x => exact h₁.elim

/-- self.k = e, the i-th attribute, all before it set -/
noncomputable def sAttr (i : Nat) (e o : EV) : ST := fun l h P => e l h fun v h1 => o l h1 fun o h2 => match o with
  | .ref k => Got (fun xs => h2[k]? = some (.inst xs) ∧ xs.length = i) fun xs => P .next l (h2.set k (.inst (xs ++ [v])))
  | _ => False
theorem ss_attr {d : Nat} (ok : X.Ok W d) {o e : PySem.Expr} {k : Str} {i : Nat} {p pos : Pos} {eo ee : EV} (ho : SE W X (eval o X.env) eo) (he : SE W X (eval e X.env) ee) (hk : wsKeys[i]? = some k) (A : IsAttr W k)
    (hs : swapsWith e (some (.Attribute o k p)) pos.line X.env = pure false) : SS W X (exec (.Assign [.Attribute o k p] e pos) X.env) (sAttr i ee eo) := by
  intro g E ρ l hp s P I h
  refine plainObj_wpAny_Assign_Attribute (wpAny_mono (he g E ρ l hp s _ I h) (fun v' s₁ h₁ => ?_) fun _ _ x => x) hs
  obtain ⟨ρ₁, v, hp₁, x₁, r₁, I₁, h₁⟩ := h₁
  refine wpAny_mono (ho g E ρ₁ l hp₁ s₁ _ I₁ h₁) (fun o' s₂ h₂ => ?_) fun _ _ x => x
  obtain ⟨ρ₂, ov, hp₂, x₂, r₂, I₂, h₂⟩ := h₂
  cases ov with
  | ref j =>
    obtain ⟨xs, ⟨e1, rfl⟩, h₂⟩ := h₂
    obtain ⟨q, es, n, hq, rfl, ne, gd, en, IA⟩ := I₂.instR e1 r₂
    obtain ⟨m, F, lr, N⟩ := I₂.frame
    have hlen := en.length
    have hfresh : k ∉ wsKeys.take xs.length := by
      intro hm
      obtain ⟨j', hj'⟩ := List.mem_iff_getElem?.mp hm
      have h1 : j' < xs.length := by
        have := (List.getElem?_eq_some_iff.mp hj').1
        rw [List.length_take] at this; omega
      rw [List.getElem?_take_of_lt h1] at hj'
      exact absurd (nodup_get wsKeys_nodup hj' hk) (Nat.ne_of_lt h1)
    obtain ⟨g1, g2⟩ := en.none hfresh
    let rest := (led s₂.heap ρ₂ g.ext).filter (fun e => e.1 != q.2)
    have Nr : News X.h₀ X.L s₂.heap ((q.2, dictOf es n) :: rest) := by
      intro e he
      rcases List.mem_cons.mp he with rfl | he
      · exact N _ (mem_led hq (.inr rfl) gd)
      · exact N e (List.mem_filter.mp he).1
    have hrest : ∀ e ∈ rest, e.1 ≠ q.2 := fun e he => by simpa using (List.mem_filter.mp he).2
    refine PySem.W.set_dict F ok.K Nr IA rfl A.set A.over A.taker A.dict (by rw [g1]; rfl) (Prod.ext (putL_new g2) rfl) (Upd.head hrest) ?_ fun h' F' N' => ?_
    · have : wsKeys.length = 5 := rfl
      rw [List.length_append, ← hlen.1]; simp; omega
    · have hv := r₁.ext x₂
      refine ⟨ρ₂, .next, l, _, x₁.trans x₂, rfl, ?_, h₂⟩
      have hkeep : ∀ (b : Addr) (ob : Obj), (∃ (kk : Nat) (pp : Addr × Addr), ρ₂[kk]? = some pp ∧ (b = pp.1 ∨ b = pp.2)) ∨ (b, ob) ∈ g.ext → b ≠ q.2 → s₂.heap.get? b = some ob → h'.get? b = some ob := by
        intro b ob hb ne' e
        have hm : (b, ob) ∈ led s₂.heap ρ₂ g.ext := by
          rcases hb with ⟨kk, pp, a, c⟩ | hb
          · exact mem_led a c e
          · exact List.mem_append_right _ hb
        exact (N' _ (.tail _ (List.mem_filter.mpr ⟨hm, by simpa using ne'⟩))).1
      have hnew := (N' _ (.head _)).1
      have sep1 : ∀ (i : Nat) (pp : Addr × Addr), ρ₂[i]? = some pp → i ≠ j → pp.1 ≠ q.2 ∧ pp.2 ≠ q.2 := fun i pp hi hne => by
        obtain ⟨_, s2, _, s4⟩ := I₂.hr.sep i j pp q hne hi hq
        exact ⟨s2, s4⟩
      have hgx := I₂.gx
      refine ⟨⟨m, F', lr⟩, ⟨by simp [I₂.hr.len], fun i pp o' a b => ?_, fun i pp a b hb => ?_, I₂.hr.sep, fun e he => ?_⟩, I₂.os, I₂.gens, hgx⟩
      · by_cases hij : i = j
        · subst hij
          rw [hq] at a; cases a
          have hl : i < hp₂.length := (List.getElem?_eq_some_iff.mp e1).1
          rw [List.getElem?_set_self hl] at b
          cases b
          obtain ⟨_, _, _, _⟩ := IA
          exact ⟨_, _, hkeep _ _ (.inl ⟨i, q, hq, .inl rfl⟩) (Ne.symm ne) (by assumption), ne, hnew, en.snoc hv hk⟩
        · rw [List.getElem?_set_ne (fun e => hij e.symm)] at b
          obtain ⟨n1, n2⟩ := sep1 i pp a hij
          exact (I₂.hr.objs i pp o' a b).heap W.C (fun o e => hkeep _ _ (.inl ⟨i, pp, a, .inl rfl⟩) n1 e) (fun o e => hkeep _ _ (.inl ⟨i, pp, a, .inr rfl⟩) n2 e)
      · obtain ⟨y1, y2, ob, y3⟩ := I₂.hr.own i pp a b hb
        refine ⟨y1, y2, ?_⟩
        by_cases hbq : b = q.2
        · subst hbq; exact ⟨_, hnew⟩
        · exact ⟨ob, hkeep b ob (.inl ⟨i, pp, a, hb⟩) hbq y3⟩
      · obtain ⟨y1, y2, y3, y4⟩ := I₂.hr.ext e he
        exact ⟨hkeep _ _ (.inr he) (y4 j q hq).2 y1, y2, y3, y4⟩
  | none => exact h₂.elim
  | bool b => exact h₂.elim
  | int i => exact h₂.elim
  | str x => exact h₂.elim

/-- the class called with one text -/
noncomputable def wsNew (f : FW) : FW := fun vs h P => match vs with
  | [x] => f [.ref h.length, x] (h ++ [.inst []]) fun v h' => match v with | .none => P (.ref h.length) h' | _ => False
  | _ => False
structure IsCls (W : Wd) (fI : Addr) : Prop where
  makes : makesIn W.K W.C = true
  init : findIn W.K (.ref W.C) "__init__" = some (some (.ref fI))
  fn : isFn W.K (.ref fI) = true
theorem op_new {d : Nat} {fI : Addr} {qual : Str} {body : List Stmt} {scope : Scope} {nms : List Str} {init : List V → Option Loc} (D : IsDef W fI qual body scope nms init) {bw : ST}
    (hb : ∀ X : Fx, X.Ok W d → X.cs = scope → X.names = nms → SS W X (execs body X.env) bw) (Cl : IsCls W fI) (ok : X.Ok W (d + 2)) : OpF W X (.ref W.C) (wsNew (defW init bw)) := by
  intro g E ρ l hp s P vs vs' I r h
  unfold wsNew at h
  split at h
  · rename_i x
    cases r with
    | cons a b =>
      cases b
      rename_i x'
      obtain ⟨m, F, lr, N⟩ := I.frame
      refine call_cls F ok.K N Cl.makes Cl.init Cl.fn fun y dy h' F' N' l1 l2 => ?_
      have hne : ∀ e ∈ led s.heap ρ g.ext, e.1 ≠ y ∧ e.1 ≠ dy := fun e he => ⟨Nat.ne_of_lt (Nat.lt_trans (l1 e he) l2), Nat.ne_of_lt (l1 e he)⟩
      have ny := N' (y, instObj W.C dy) (.head _)
      have nd := N' (dy, dictOf [] 0) (.tail _ (.head _))
      have Nl : News X.h₀ X.L h' (led s.heap ρ g.ext) := fun e he => N' e (.tail _ (.tail _ he))
      have I₁ : Inv W X g (ρ ++ [(y, dy)]) l (hp ++ [.inst []]) { s with heap := h' } :=
        ⟨⟨m, F', lr.ext (Ext.snoc _ _)⟩, I.hr.addAt Nl hne ⟨_, ny⟩ ⟨_, nd⟩ (o := .inst []) ⟨[], 0, ny.1, Nat.ne_of_lt l2, nd.1, .nil⟩, I.os, I.gens, I.gx⟩
      have rr : VRs (ρ ++ [(y, dy)]) [.ref hp.length, x] [.ref y, x'] := .cons (I.ref_new (y, dy)) (.one (a.ext (Ext.snoc _ _)))
      refine code_of_def D hb ok ?_ ?_ ?_ ?_ I₁ rr h fun v' s' hv => ?_
      · show (X.A.under _).frames = _
        exact Around.frames_deeper (ok.B (Nat.succ_pos _)).stack
      · have := ok.depth
        rw [depth_under_make]; omega
      · have := ok.units
        have e : (X.A.under (.builtin "type.__call__" ⟨.ref W.C :: [x'], []⟩)).units = X.A.units + 1 := rfl
        rw [e]; omega
      · exact ok.handled
      · obtain ⟨ρ₂, v, hp₂, x₂, r₂, I₂, h₂⟩ := hv
        cases v with
        | none =>
          cases r₂
          exact ⟨rfl, ρ₂, _, hp₂, (Ext.snoc _ _).trans x₂, (I.ref_new (y, dy)).ext x₂, I₂, h₂⟩
        | bool b => exact h₂.elim
        | int i => exact h₂.elim
        | str x => exact h₂.elim
        | ref x => exact h₂.elim
  · exact h.elim
end
end Mine
end

noncomputable section -- L1j
open PySem PySem.W PySem.Calls PyProof.Rows
set_option maxRecDepth 100000
set_option autoImplicit false
namespace Mine

section
variable {W : Wd} {X : Fx} {g : Gx} {ρ : Rho} {l : Loc} {hp : List O} {s : Shared} {E : Value → Shared → Prop}

/-! methods of the class's instances -/
structure IsMeth (W : Wd) (k : Str) (f : Addr) : Prop where
  get : plainGet W.K W.C k = true
  find : findIn W.K (.ref W.C) k = some (some (.ref f))
  fn : isFn W.K (.ref f) = true
  keep : keepIn W.K (.ref f) = true
  own : k ∉ wsKeys
inductive isInstV (v : V) (h : List O) : Prop
  | mk (k : Nat) (xs : List V) (_ : v = .ref k) (_ : h[k]? = some (.inst xs))
theorem meth_inst {d : Nat} (ok : X.Ok W d) {name : Str} {f : Addr} {fw : FW} (M : IsMeth W name f) (hf : OpF W X (.ref f) fw) : MethG W X name isInstV fw := by
  rintro g ρ l hp s v v' I r ⟨k, xs, rfl, e⟩
  obtain ⟨p, es, n, _, rfl, _, _, en, IA⟩ := I.instR e r
  obtain ⟨m, F, _⟩ := I.fr
  obtain ⟨g1, _⟩ := en.none (k := name) (fun h => M.own (List.mem_of_mem_take h))
  exact ⟨.ref f, .fn f M.keep, hf, fun E pl Q h => method_inst F ok.K IA M.get M.find M.fn g1 h⟩

/-! a value of the class's own -/
structure IsClsVal (W : Wd) (k : Str) (x : Str) : Prop where
  h : ∃ mc a t, typeIn W.K (.ref W.C) = some mc ∧ readsIn W.K W.C mc = true ∧ findCls W.K (.ref W.C) mc k = some (.val a) ∧ handedIn a = true ∧ a = .str x t
theorem se_cls {d : Nat} (ok : X.Ok W d) {c k x : Str} {y : List Nat} {p pos : Pos} (G : IsName W X c (.ref W.C)) (H : IsClsVal W k x) (e : x = ⟨y.toArray⟩)
    (he : eval (.Attribute (.Name c p) k pos) X.env = (do
      let ov ← eval (.Name c p) X.env
      standAt pos.atName
      let r ← holding [ov] (getAttr ov k true)
      letTemporaryGo (.Name c p) ov r
      pure r)) : SE W X (eval (.Attribute (.Name c p) k pos) X.env) (eStr y) := by
  subst e
  intro g E ρ l hp s P I h
  obtain ⟨mc, a, t, h1, h2, h3, h4, rfl⟩ := H.h
  obtain ⟨m, F, _⟩ := I.fr
  exact Attribute_any_ (ev_name ok G I (cls_val F ok.K h1 h2 h3 h4 (PostE.here I (VR.str _ _) h _))) he

/-! x, y = (a, b) -/
noncomputable def tSwap (i j : Nat) : TW := fun v l h P => match v with
  | .ref k => Got2 (fun a b => h[k]? = some (.tup [a, b])) fun a b => P ((l.set j (some b)).set i (some a)) h
  | _ => False
theorem ss_swap {d : Nat} (O : X.Ok W d) {es : List PySem.Expr} {k : Nat} {e : PySem.Expr} {ev : EV} {x y : Str} {i j : Nat} {p pos : Pos} (hi : X.names[i]? = some x) (hj : X.names[j]? = some y) (he : SE W X (eval e X.env) ev)
    (hs : swapsWithSole [.Tuple es k p] e pos.line X.env = pure false) (hw : swappedStores [.Tuple es k p] e X.env = pure (some [x, y])) : SS W X (exec (.Assign [.Tuple es k p] e pos) X.env) (sTgt (tSwap i j) ev) := by
  intro g E ρ l hp s P I h
  refine Assign_Tuple_swapped (wpAny_mono (he g E ρ l hp s _ I h) (fun v' s₁ h₁ => ?_) fun _ _ x => x) hs hw
  obtain ⟨ρ₁, v, hp₁, x₁, r₁, I₁, h₁⟩ := h₁
  cases v with
  | ref kk =>
    obtain ⟨a, b, e1, h₁⟩ := h₁
    obtain ⟨pp, vs, n, _, rfl, gg, r⟩ := I₁.tupR e1 r₁
    have T : s₁.heap.IsTuple pp.1 vs.toArray := ⟨_, gg, rfl, n, rfl⟩
    have hl : [x, y].length = vs.toArray.size := by rw [List.size_toArray, ← r.length]; rfl
    rw [hl]
    refine wpAny_unpackItems_tuple O.handled T fun h' hx => ?_
    have I₂ := I₁.keep (h' := h') (fun b o e => hx b o (Nat.ne_of_lt (Heap.lt_size e)) e) s₁.toks
    cases r with
    | cons ra rest =>
      cases rest with
      | cons rb rest =>
        cases rest
        refine wpAny_assignInOrder_more (bindName_ (store_name ⟨d, O⟩ hj I₂ rb fun s₃ I₃ => ?_))
        refine wpAny_assignInOrder_more (bindName_ (store_name ⟨d, O⟩ hi I₃ ra fun s₄ I₄ => ?_))
        exact wpAny_assignInOrder_none ⟨ρ₁, .next, _, hp₁, x₁, rfl, I₄, h₁⟩
  | none => exact h₁.elim
  | bool b => exact h₁.elim
  | int i => exact h₁.elim
  | str x => exact h₁.elim

/-- x = y = z = e -/
noncomputable def sAsg3 (i j k : Nat) (e : EV) : ST := fun l h P => e l h fun v h1 => P .next (((l.set i (some v)).set j (some v)).set k (some v)) h1
theorem ss_asg3 {d : Nat} (O : X.Ok W d) {x y z : Str} {i j k : Nat} (hi : X.names[i]? = some x) (hj : X.names[j]? = some y) (hk : X.names[k]? = some z) {e : PySem.Expr} {ev : EV} {p q r pos : Pos} (he : SE W X (eval e X.env) ev)
    (hw : swappedStores [.Name x p, .Name y q, .Name z r] e X.env = pure none) :
    SS W X (exec (.Assign [.Name x p, .Name y q, .Name z r] e pos) X.env) (sAsg3 i j k ev) := by
  intro g E ρ l hp s P I h
  refine wpAny_Assign_three (wpAny_mono (he g E ρ l hp s _ I h) (fun v' s' h' => ?_) fun _ _ x => x) rfl hw
  obtain ⟨ρ₁, v, hp₁, x₁, r₁, I₁, h₁⟩ := h'
  refine wpAny_assign_Name (store_name ⟨d, O⟩ hi I₁ r₁ fun s₁ I₁ => ?_)
  refine wpAny_assign_Name (store_name ⟨d, O⟩ hj I₁ r₁ fun s₁ I₁ => ?_)
  refine wpAny_assign_Name (store_name ⟨d, O⟩ hk I₁ r₁ fun s₁ I₁ => ?_)
  exact ⟨ρ₁, .next, _, hp₁, x₁, rfl, I₁, h₁⟩

/-! names of the text that hold an int, a table -/
theorem se_const {d : Nat} (ok : X.Ok W d) {x : Str} {i : Int} {t : Tok} (G : IsName W X x (.int i t)) {pos : Pos} : SE W X (eval (.Name x pos) X.env) (eInt i) :=
  fun _ _ _ _ _ _ _ I h => ev_name ok G I (PostE.here0 I (VR.int _ _) h)
structure IsTab (W : Wd) (a : Addr) (f : List Nat → Option Int) : Prop where
  h : ∃ es n, W.K.lookup a = some ⟨.type "dict", none, .dict es n, #[]⟩ ∧ KeysLit W.w.params es.toList ∧ ∀ x : List Nat, match f x with
    | none => findBy Value.isStrOf es ⟨x.toArray⟩ = none
    | some i => ∃ t, findBy Value.isStrOf es ⟨x.toArray⟩ = some (.int i t)
  ne : (a == sysModules) = false
noncomputable def bNotTab (f : List Nat → Option Int) (e : EV) : BV := fun l h P => e l h fun v h1 => match v with
  | .str x => P (f x).isNone h1
  | _ => False
theorem sb_notTab {d : Nat} (ok : X.Ok W d) {a : Addr} {x : Str} {f : List Nat → Option Int} {e : PySem.Expr} {ev : EV} {p pos : Pos} (G : IsName W X x (.ref a)) (T : IsTab W a f) (he : SE W X (eval e X.env) ev) :
    ST? W X (.Compare e [.NotIn] [.Name x p] pos) (bNotTab f ev) := by
  intro g E ρ l hp s P I h
  refine wpAny_isTrue_Compare1 (wpAny_mono (he g E ρ l hp s _ I h) (fun va' s₁ h₁ => ?_) fun _ _ x => x) rfl
  obtain ⟨ρ₁, v, hp₁, x₁, r₁, I₁, h₁⟩ := h₁
  refine ev_name ok G I₁ ?_
  cases v with
  | str y =>
    obtain ⟨t, rfl⟩ := r₁
    obtain ⟨es, n, h1, h2, h3⟩ := T.h
    obtain ⟨m, F, _⟩ := I₁.fr
    refine wpAny_notIn_of (strKind_is W.prog W.w _ t) T.ne (mapOf_K (ok.K.keeps F.keep) h1 h2) ?_
    have h4 := h3 y
    have key : (!(findBy Value.isStrOf es ⟨y.toArray⟩).isSome) = (f y).isNone := by
      cases hf : f y with
      | none => rw [hf] at h4; rw [h4]; rfl
      | some i => rw [hf] at h4; obtain ⟨t, h4⟩ := h4; rw [h4]; rfl
    rw [key]
    exact wpAny_truthy_bool ⟨ρ₁, hp₁, x₁, I₁.toks _, h₁⟩
  | none => exact h₁.elim
  | bool b => exact h₁.elim
  | int i => exact h₁.elim
  | ref k => exact h₁.elim
noncomputable def eTab (f : List Nat → Option Int) (e : EV) : EV := fun l h P => e l h fun v h1 => match v with
  | .str x => Got (fun i => f x = some i) fun i => P (.int i) h1
  | _ => False
theorem se_tab {d : Nat} (ok : X.Ok W d) {a : Addr} {x : Str} {f : List Nat → Option Int} {e : PySem.Expr} {ev : EV} {p pos : Pos} (G : IsName W X x (.ref a)) (T : IsTab W a f) (he : SE W X (eval e X.env) ev)
    (hsub : ∀ o k, subscripted e false o k = operate [o, k] (getItem o k)) : SE W X (eval (.Subscript (.Name x p) e pos) X.env) (eTab f ev) := by
  intro g E ρ l hp s P I h
  refine Subscript_ (ev_name ok G I (wpAny_mono (he g E ρ l hp s _ I h) (fun va' s₁ h₁ => ?_) fun _ _ x => x))
  obtain ⟨ρ₁, v, hp₁, x₁, r₁, I₁, h₁⟩ := h₁
  cases v with
  | str y =>
    obtain ⟨t, rfl⟩ := r₁
    obtain ⟨es, n, h1, h2, h3⟩ := T.h
    obtain ⟨i, hi, h₁⟩ := h₁
    obtain ⟨m, F, _⟩ := I₁.fr
    have h4 := h3 y
    rw [hi] at h4
    obtain ⟨u, h4⟩ := h4
    have hm := mapOf_K (prog := W.prog) (ok.K.keeps F.keep) h1 h2
    refine tail_any hm.typeIs slot_dict_getitem.lookup (wpAny_getItem_of (strKind_is W.prog W.w _ t) hm h4 ?_) (hsub _ _)
    exact PostE.later x₁ (PostE.here I₁ (VR.int _ _) h₁ _)
  | none => exact h₁.elim
  | bool b => exact h₁.elim
  | int i => exact h₁.elim
  | ref k => exact h₁.elim

/-! str.split, str.join -/
noncomputable def mSplit (f : List Nat → List Nat → List (List Nat)) : FW := fun vs h P => on2 vs fun a b => onStr a fun x => onStr b fun y => (x.length ≤ 2 ^ 20 ∧ y ≠ []) ∧ P (.ref h.length) (h ++ [.list ((f x y).map .str)])
noncomputable def splitF (x y : List Nat) : List (List Nat) := (Txt.split ⟨x.toArray⟩ ⟨y.toArray⟩).map fun s => s.cps.toList
theorem strs_VRs {ρ : Rho} : ∀ (l : List (Str × Tok)) (ys : List Str), l.map (·.1) = ys → VRs ρ (ys.map fun y => .str y.cps.toList) (strValues l)
  | [], ys, e => by cases e; exact .nil
  | (x, t) :: r, ys, e => by
    cases e
    refine .cons ⟨t, ?_⟩ (strs_VRs r _ rfl)
    rfl
theorem op_split : OpF W X (.builtin "str.split") (mSplit splitF) := by
  intro g E ρ l hp s P vs vs' I r h
  obtain ⟨a, b, a', b', rfl, ra, rb, h⟩ := on2_inv h r
  obtain ⟨x, t, rfl, rfl, h⟩ := onStr_inv h ra
  obtain ⟨y, u, rfl, rfl, ⟨h1, h2⟩, h⟩ := onStr_inv h rb
  obtain ⟨m, F, lr, N⟩ := I.frame
  refine splitN1 F N (by simpa [Str.length] using h2) (fun ll h' k e F' N' => ?_) (Nat.le_trans (Nat.add_le_add_right h1 2) (by rw [sizeLine_eq]; decide))
  refine PostE.newListAt (n := 0) I lr F' N' (get_size_none _) (xs := (splitF x y).map .str) ?_ h k
  have := strs_VRs (ρ := ρ) ll _ e
  unfold splitF
  rw [List.map_map]
  exact this
theorem m_split : MethG W X "split" isStrV (mSplit splitF) := meth_str PySem.F.slot_str_split PySem.F.type_str_split op_split
/-- ''.join(a list of texts) -/
noncomputable def mJoin0 : FW := fun vs h P => on2 vs fun a b => onStr a fun x => onRef b fun k => Got (fun ys : List (List Nat) => x = [] ∧ h[k]? = some (.list (ys.map .str)) ∧ ys.flatten.length ≤ 2 ^ 20) fun ys => P (.str ys.flatten) h
theorem join0_go : ∀ (ys : List (List Nat)) (acc : List Nat), (ys.map fun y => (⟨y.toArray⟩ : Str)).foldl (fun acc p => acc ++ (⟨([] : List Nat).toArray⟩ : Str).cps ++ p.cps) acc.toArray = (acc ++ ys.flatten).toArray
  | [], acc => by simp
  | y :: r, acc => by
    rw [List.map_cons, List.foldl_cons]
    have e : acc.toArray ++ (⟨([] : List Nat).toArray⟩ : Str).cps ++ (⟨y.toArray⟩ : Str).cps = (acc ++ y).toArray := by simp
    rw [e, join0_go r (acc ++ y), List.flatten_cons, List.append_assoc]
theorem join0 : ∀ ys : List (List Nat), Txt.join ⟨([] : List Nat).toArray⟩ (ys.map fun y => (⟨y.toArray⟩ : Str)) = ⟨ys.flatten.toArray⟩
  | [] => rfl
  | y :: r => by
    show Str.mk (((r.map fun y => (⟨y.toArray⟩ : Str))).foldl _ y.toArray) = _
    rw [join0_go r y]
    rfl
theorem op_join : OpF W X (.builtin "str.join") mJoin0 := by
  intro g E ρ l hp s P vs vs' I r h
  obtain ⟨a, b, a', b', rfl, ra, rb, h⟩ := on2_inv h r
  obtain ⟨x, t, rfl, rfl, h⟩ := onStr_inv h ra
  obtain ⟨k, rfl, ys, ⟨rfl, h1, h2⟩, h3⟩ := onRef_inv h
  obtain ⟨p, vs, n, _, rfl, gg, rr⟩ := I.listR h1 rb
  refine join_list (isList_of gg) (strsAre rr) ?_ fun t' k => ?_
  · simp only [List.map_map, List.length_flatten] at h2 ⊢
    have e : ((fun x : Str => x.length) ∘ fun y : List Nat => (⟨y.toArray⟩ : Str)) = List.length := by funext y; simp [Str.length]
    simp only [Str.length, List.size_toArray, List.length_nil, Nat.mul_zero, Nat.add_zero] at e ⊢
    rw [e]
    exact sizeLine_ge h2
  · rw [join0]
    exact PostE.here I (VR.str _ _) h3 k
theorem m_join : MethG W X "join" isStrV mJoin0 := meth_str PySem.F.slot_str_join PySem.F.type_str_join op_join

/-! [' ' * r + '\t' for r in e] -/
noncomputable def runOf (r : Int) : List Nat := List.replicate r.toNat 32 ++ [9]
noncomputable def eRuns (i : Nat) : EV := fun l h P => Got2 (fun (k : Nat) (xs : List Int) => l[i]? = some (some (.ref k)) ∧ h[k]? = some (.list (xs.map .int)) ∧ xs.length ≤ 2 ^ 16 ∧ ∀ x ∈ xs, 0 ≤ x ∧ x ≤ 16) fun _ xs => P (.ref h.length) (h ++ [.list (xs.map fun x => .str (runOf x))])
theorem runs_VRs {ρ : Rho} : ∀ {xs : List Int} {ys : List Value}, xs.length = ys.length → (∀ (i : Nat) (x : Int) (y : Value), xs[i]? = some x → ys[i]? = some y → VR ρ (.str (runOf x)) y) → VRs ρ (xs.map fun x => .str (runOf x)) ys
  | [], [], _, _ => .nil
  | x :: xs, y :: ys, e, h => .cons (h 0 x y rfl rfl) (runs_VRs (by simpa using e) fun i a b ha hb => h (i + 1) a b ha hb)
  | [], _ :: _, e, _ => by simp at e
  | _ :: _, [], e, _ => by simp at e
theorem ints_get {ρ : Rho} {xs : List Int} {vs : List Value} (h : VRs ρ (xs.map .int) vs) {i : Nat} {v : Value} (e : vs[i]? = some v) : ∃ x t, xs[i]? = some x ∧ v = .int x t := by
  obtain ⟨u, hu, r⟩ := h.get' e
  rw [List.getElem?_map] at hu
  cases hx : xs[i]? with
  | none => rw [hx] at hu; cases hu
  | some x => rw [hx] at hu; cases hu; obtain ⟨t, rfl⟩ := r; exact ⟨x, t, rfl, rfl⟩
theorem off1_mem {D : Addr} : ∀ {l : List (Addr × Obj)}, LCg.Off1 D l → ∀ p ∈ l, p.1 ≠ D
  | [], _, _, h => nomatch h
  | _ :: _, x, p, h => by
    rcases List.mem_cons.mp h with rfl | h
    · exact x.1
    · exact off1_mem x.2 p h
/-- a new list beside the kept ledger, by what it is apart from -/
theorem PostE.newListOff {P : V → List O → Prop} (I : Inv W X g ρ l hp s) {m : Str → Option Value} (lr : LR X.names ρ l m) {h' : Heap} {xs : List V} {vs : List Value} {c : Addr} {n : Nat} (F : Fr X.h₀ X.L h' m)
    (N : News X.h₀ X.L h' ((c, listOf (List.toArray vs) n) :: led s.heap ρ g.ext)) (hc : ∀ e ∈ led s.heap ρ g.ext, e.1 ≠ c) (h : VRs ρ xs vs) (hP : P (.ref hp.length) (hp ++ [.list xs])) (t : Nat) :
    PostE W X g ρ l P (.ref c) { s with heap := h', toks := t } := by
  have n1 := N (c, listOf (List.toArray vs) n) (.head _)
  exact ⟨_, _, _, Ext.snoc _ _, I.ref_new (_, _), ⟨⟨m, F, lr.ext (Ext.snoc _ _)⟩, I.hr.addAt (fun e he => N e (.tail _ he)) (fun e he => ⟨hc e he, hc e he⟩) ⟨_, n1⟩ ⟨_, n1⟩ (o := .list xs) ⟨vs, n, n1.1, h.ext (Ext.snoc _ _)⟩, I.os, I.gens, I.gx⟩, hP⟩
theorem se_runs {d : Nat} (ok : X.Ok W d) {x y : Str} {iy : Nat} {px py : Pos} {scope : Scope} {pos p1 p2 p3 p4 p5 : Pos} {k1 k2 : Nat} (hi : X.names[iy]? = some y)
    (hclos : closureFor scope X.env = pure []) (hcell : ∀ y ∈ scope.names, y.2 ≠ .cell) (hkind : scope.kind = .function)
    (hnames : ∀ y ∈ scope.names, y.2 = .local → scope.names.lookup y.1 = some .local) (hx : scope.names.lookup x = some .local)
    (hkx : (relabel scope X.env).names.lookup x = some .local) (hd : (x == ("__debug__" : Str)) = false) (hs : ∀ x, foldedSetIterable (.Name y py) X.env x = pure x) :
    SE W X (eval (.ListComp (.BinOp (.BinOp (.Constant (.str ⟨[32].toArray⟩) k1 p1) .Mult (.Name x p2) p3) .Add (.Constant (.str ⟨[9].toArray⟩) k2 p4) p5) [⟨.Name x px, .Name y py, [], 0⟩] scope pos) X.env) (eRuns iy) := by
  rintro g E ρ l hp s P I ⟨k, xs, ⟨hl, e1, e2, e3⟩, h⟩
  obtain ⟨m, F, lr, N⟩ := I.frame
  obtain ⟨v', hm, hr⟩ := lr iy y _ hi hl
  obtain ⟨p, vs, n, hp1, rfl, gg, r⟩ := I.listR e1 hr
  refine LCg.ListComp_U F hclos hcell hkind hnames hx (nameX_L F hm ?_ ok.kind (ok.names iy y hi).1 (ok.names iy y hi).2) hs
  have hlen : xs.length = vs.length := by have := r.length; rwa [List.length_map] at this
  have hmem : (p.1, ({ cls := .type "list", data := .seq vs.toArray n } : Obj)) ∈ led s.heap ρ g.ext := mem_led hp1 (.inl rfl) gg
  refine LCg.CompSrc.ledger ok.handled F N hmem (by rw [List.size_toArray, ← hlen]; exact sizeLine_ge (by lia)) fun gh => ?_
  rw [List.size_toArray]
  have main : ∀ (j i : Nat) (ys : List Value), j + i = vs.length → ys.length = i → (∀ (q : Nat) (x : Int) (y : Value), xs[q]? = some x → ys[q]? = some y → VR ρ (.str (runOf x)) y) →
      LCg.CompRest W.prog W.w X.A X.h₀ X.L m X.env (.BinOp (.BinOp (.Constant (.str ⟨[32].toArray⟩) k1 p1) .Mult (.Name x p2) p3) .Add (.Constant (.str ⟨[9].toArray⟩) k2 p4) p5) x scope [] { s with heap := gh } (LCg.SrcAt X.h₀ p.1 vs.toArray) (fun i v => vs.toArray[i]? = some v)
        (LCg.FinE X.h₀ X.L m { s with heap := gh } (PostE W X g ρ l P)) j i ys (led s.heap ρ g.ext) := by
    intro j
    induction j with
    | zero =>
      intro i ys hji hyl hys
      refine LCg.CompRest.zero fun D h' tk F' N' off => ?_
      exact PostE.newListOff (n := ys.length) I lr F' N' (off1_mem off) (runs_VRs (by lia) hys) h tk
    | succ j ih =>
      intro i ys hji hyl hys
      refine LCg.CompRest.succ fun v I' oI C oC D m₂ h' tk E' hv hoC hm₂ F' N' off ne => ?_
      obtain ⟨a, t, ha, rfl⟩ := ints_get r (i := i) (v := v) (by simpa using hv)
      have hns : h'.Ns C m₂ := hoC.ns (N' (C, oC) (by simp)).1
      have ha' := e3 a (List.mem_of_getElem? ha)
      refine wpAny_BinOp (wpAny_BinOp (Calls.Constant_str (wpAny_Name (wpAny_loadName_local hkind hkx hns hm₂ ?_) hd)))
      refine SB.mul (mulOk_of 16 65536 (by show 1 ≤ 16; decide) (by lia) (by lia) (by decide) (by decide)) fun t' k => ?_
      rw [txt_mul _ ha'.1]
      refine Calls.Constant_str ?_
      have hrep : ∀ q : Nat, (List.replicate q [32]).flatten = List.replicate q 32 := fun q => by
        induction q with
        | zero => rfl
        | succ q ih => rw [List.replicate_succ, List.flatten_cons, ih]; rfl
      refine PyProof.Rows.add_str (fun t'' tk' => ?_) (by rw [sizeLine_eq]; simp only [Str.length, List.size_toArray, hrep, List.length_replicate, List.length_singleton]; lia)
      rw [str_append, hrep]
      refine LCg.CompEnd.intro F' N' (led s.heap ρ g.ext) (fun p hp => hp) off ?_ (ih (i + 1) _ (by lia) (by rw [List.length_append, hyl]; rfl) fun q x y hq hy => ?_)
      · exact .inr ⟨_, hmem, rfl, _, rfl⟩
      · rcases Nat.lt_or_ge q ys.length with hlt | hge
        · rw [List.getElem?_append_left hlt] at hy
          exact hys q x y hq hy
        · have hq' : q = i := by
            rw [List.getElem?_append_right hge] at hy
            have := (List.getElem?_eq_some_iff.mp hy).1
            simp at this; lia
          subst hq'
          rw [ha] at hq; cases hq
          rw [← hyl, List.getElem?_concat_length] at hy
          cases hy
          exact VR.str _ _
  exact main vs.length 0 [] rfl rfl fun q x y _ h => by simp at h
end
end Mine
end

noncomputable section -- L1k
open PySem PySem.W PySem.Calls PyProof.Rows
set_option maxRecDepth 100000
set_option autoImplicit false
namespace Mine

/-! statements of a generator's body -/
section
variable {prog : Program} {w : World} {A : Around} {R : GenEnd} {Y : Protocol} {n : Nat} {s₀ : Shared} {c : Code} {fs : List PySem.Frame} {s : Shared} {env : Env} {K : Flow → Sem Fin} {H : Value → Sem Fin} {gd : Bool → Bool} {lv : List Value → List Value}
noncomputable abbrev noE : Value → Shared → Prop := fun _ _ => False

/-- a tree that does not yield -/
theorem seg_tree {α : Type} {m : Sem α} {K : α → Sem Fin} (h : wpAny (model prog w) (A.over c fs) m (fun a s' => Seg (model prog w) A R Y n s₀ c (K a) fs s') noE s) : Seg (model prog w) A R Y n s₀ c (m.wrap K H gd lv) fs s :=
  seg_wrap (wpAny_mono h (fun _ _ x => x) fun _ _ x => x.elim)
theorem seg_tree_bind {α β : Type} {m : Sem α} {f : α → Sem β} {K : β → Sem Fin} (h : wpAny (model prog w) (A.over c fs) m (fun a s' => Seg (model prog w) A R Y n s₀ c ((f a).wrap K H gd lv) fs s') noE s) : Seg (model prog w) A R Y n s₀ c ((m >>= f).wrap K H gd lv) fs s := by
  rw [Sem.bind_eq_wrap', Sem.wrap_wrap]
  exact seg_wrap (wpAny_mono h (fun _ _ x => x) fun _ _ x => x.elim)
theorem seg_If {test : PySem.Expr} {body orelse : List Stmt} {pos : Pos}
    (h : wpAny (model prog w) (A.over c fs) (isTrue test env (eval test env)) (fun b s' => match b with
      | true => Seg (model prog w) A R Y n s₀ c ((execs body env).wrap K H gd lv) fs s'
      | false => Seg (model prog w) A R Y n s₀ c ((execs orelse env).wrap K H gd lv) fs s') noE s) :
    Seg (model prog w) A R Y n s₀ c ((exec (.If test body orelse pos) env).wrap K H gd lv) fs s := by
  rw [exec_If]
  refine seg_tree_bind (wpAny_standAt (seg_tree_bind (wpAny_mono h (fun b s' h' => ?_) fun _ _ x => x)))
  cases b <;> exact h'
/-- the frame that a for statement leaves on the stack -/
noncomputable abbrev forK (env : Env) (K : Flow → Sem Fin) (H : Value → Sem Fin) (gd : Bool → Bool) (lv : List Value → List Value) : Result → Sem Fin :=
  fun r => ((match r with | .ok f => (.pure f : Sem Flow) | .error e => .raise e).onRaise fun (x : Value) => do
        if (← field x 1) == Value.none then unsupported "frame.own-activation:exception-without-traceback"
        setFlight x env.frame).wrap K H gd lv
theorem seg_For {target iter : PySem.Expr} {body orelse : List Stmt} {pos : Pos}
    (h : wpAny (model prog w) (A.over c fs) (eval iter env) (fun x s₁ => wpAny (model prog w) (A.over c fs) (pyIter x) (fun it s₂ =>
      ∀ p, Seg (model prog w) A R Y n s₀ (.forLoop target it body orelse env) ((model prog w).den (.forLoop target it body orelse env)) (.ret (forK env K H gd lv) none (gd false) (lv []) c p [] :: fs) s₂) noE s₁) noE s)
    (hs : ∀ x, foldedSetIterable iter env x = pure x) :
    Seg (model prog w) A R Y n s₀ c ((exec (.For target iter body orelse pos) env).wrap K H gd lv) fs s := by
  rw [PySem.exec_For]
  refine seg_tree_bind (wpAny_standAt (seg_tree_bind (wpAny_mono h (fun x s₁ h₁ => ?_) fun _ _ x => x)))
  refine seg_tree_bind (wpAny_of_eq (hs x) (seg_tree_bind (wpAny_standAt (seg_tree_bind (wpAny_holding (wpAny_mono h₁ (fun it s₂ h₂ => ?_) fun _ _ x => x))))))
  exact seg_call h₂
/-- one turn of a for statement -/
theorem seg_forLoop {target : PySem.Expr} {it : Value} {body : List Stmt}
    (h : wpAny (model prog w) (A.over (.forLoop target it body [] env) fs) (pyNext it) (fun r s' => match r with
      | none => Seg (model prog w) A R Y n s₀ (.block [] env) (leafOf (.ok .next)) fs s'
      | some v => wpAny (model prog w) (A.over (.forLoop target it body [] env) fs) (letOwnedTupleGo target it v) (fun _ s₁ => wpAny (model prog w) (A.over (.forLoop target it body [] env) fs) (assign target env v) (fun _ s₂ =>
          Seg (model prog w) A R Y n s₀ (.forLoop target it body [] env) ((execs body env).wrap (fun f => match f with
            | .next | .cont => .pure (.again (.forLoop target it body [] env))
            | .brk => .pure (.done .next)
            | .ret v => .pure (.done (.ret v))) (fun e => (do noteFrame e env; theTreesLotGoes e : Sem Unit).wrap (fun _ => .raise e) .raise id id) id id) fs s₂) noE s₁) noE s') noE s) :
    Seg (model prog w) A R Y n s₀ (.forLoop target it body [] env) ((model prog w).den (.forLoop target it body [] env)) fs s := by
  show Seg _ A R Y n s₀ _ ((forTurn target it body [] env).onRaise (fun x => do noteFrame x env; theTreesLotGoes x)) fs s
  unfold forTurn
  rw [Sem.onRaise_eq_wrap]
  refine seg_tree_bind (wpAny_standAt (seg_tree_bind (wpAny_onRaise (wpAny_mono h (fun r s' h' => ?_) fun _ _ x => x.elim))))
  cases r with
  | none =>
    refine seg_again rfl ?_
    exact h'
  | some v =>
    refine seg_tree_bind (wpAny_mono h' (fun _ s₁ h₁ => ?_) fun _ _ x => x)
    refine seg_tree_bind (wpAny_mono h₁ (fun _ s₂ h₂ => ?_) fun _ _ x => x)
    rw [Sem.bind_eq_wrap', Sem.wrap_wrap]
    rw [Sem.wrap_congr (execs body env) _ _ (K' := fun f => match f with
            | .next | .cont => .pure (.again (.forLoop target it body [] env))
            | .brk => .pure (.done .next)
            | .ret v => .pure (.done (.ret v))) (H' := (fun e => (do noteFrame e env; theTreesLotGoes e : Sem Unit).wrap (fun _ => .raise e) .raise id id))
        (fun f => by cases f <;> rfl)
        (fun e => by first | exact Sem.bind_eq_wrap _ _ | (show (do noteFrame e env; theTreesLotGoes e : Sem Unit).bind (fun _ => .raise e) = _; rw [Sem.bind_eq_wrap]))]
    exact h₂
end
end Mine
end

noncomputable section -- L1l
open PySem PySem.W PySem.Calls PyProof.Rows
set_option maxRecDepth 100000
set_option autoImplicit false
namespace Mine

section
variable {W : Wd} {X : Fx} {g : Gx} {ρ : Rho} {l : Loc} {hp : List O} {s s₀ : Shared} {E : Value → Shared → Prop}

theorem over_func (body : List Stmt) : X.A₀.over (.func body X.env) [] = X.A := rfl
theorem over_for (tgt : PySem.Expr) (it : Value) (b body : List Stmt) (k : Result → Sem Fin) (gu : Bool) (ls : List Value) (p : Pos) : X.A₀.over (.forLoop tgt it b [] X.env) [.ret k none gu ls (.func body X.env) p []] = X.A := rfl

/-- a state of another heap, what is not its own kept -/
theorem Inv.shift (I : Inv W X g ρ l hp s) {own : List Addr} {s' : Shared} (keep : ∀ b o, b ∉ own → s.heap.get? b = some o → s'.heap.get? b = some o) (ownL : X.L ∉ own) (own0 : ∀ b ∈ own, X.h₀.get? b = none)
    (ownR : ∀ (k : Nat) (p : Addr × Addr), ρ[k]? = some p → p.1 ∉ own ∧ p.2 ∉ own) {ext' : List (Addr × Obj)} {gx' : List (Nat × GenState)}
    (he : ∀ e ∈ ext', s'.heap.get? e.1 = some e.2 ∧ e.1 ≠ X.L ∧ X.h₀.get? e.1 = none ∧ ∀ (k : Nat) (p : Addr × Addr), ρ[k]? = some p → e.1 ≠ p.1 ∧ e.1 ≠ p.2)
    (os : s'.os = X.os) (gens : AllBare s'.gens) (hgx : ∀ e ∈ gx', s'.gens[e.1]? = some e.2) : Inv W X ⟨ext', gx'⟩ ρ l hp s' := by
  obtain ⟨m, F, lr⟩ := I.fr
  obtain ⟨oL, es, ep, hL, r⟩ := F.ns
  refine ⟨⟨m, ⟨⟨oL, es, ep, keep _ _ ownL hL, r⟩, fun b o e => keep b o (fun q => by rw [own0 b q] at e; cases e) (F.keep b o e), F.above⟩, lr⟩, ⟨I.hr.len, fun k p o h1 h2 => ?_, fun k p h b hb => ?_, I.hr.sep, he⟩, os, gens, hgx⟩
  · obtain ⟨n1, n2⟩ := ownR k p h1
    exact (I.hr.objs k p o h1 h2).heap W.C (fun o e => keep _ o n1 e) (fun o e => keep _ o n2 e)
  · obtain ⟨n1, n2⟩ := ownR k p h
    obtain ⟨a, b', ob, c⟩ := I.hr.own k p h b hb
    refine ⟨a, b', ob, keep _ _ ?_ c⟩
    rcases hb with rfl | rfl
    · exact n1
    · exact n2
/-- an object that stands on the heap taken among mine -/
theorem Inv.adopt (I : Inv W X g ρ l hp s) {c : Addr} {ob : Obj} (hc : s.heap.get? c = some ob) (hL : c ≠ X.L) (h0 : X.h₀.get? c = none) (ne : ∀ e ∈ led s.heap ρ g.ext, e.1 ≠ c) {o : O}
    (ho : OAt W.C W.w.params (ρ ++ [(c, c)]) s.heap (c, c) o) : Inv W X g (ρ ++ [(c, c)]) l (hp ++ [o]) s := by
  obtain ⟨m, F, lr⟩ := I.fr
  exact ⟨⟨m, F, lr.ext (Ext.snoc _ _)⟩, I.hr.addAt I.hr.news (fun e he => ⟨ne e he, ne e he⟩) ⟨ob, hc, hL, h0⟩ ⟨ob, hc, hL, h0⟩ ho, I.os, I.gens, I.gx⟩

/-! what a generator keeps -/
noncomputable def Basic (X : Fx) (s : Shared) : Prop := (∀ b o, X.h₀.get? b = some o → s.heap.get? b = some o) ∧ AllBare s.gens ∧ s.os = X.os
noncomputable def Kept (X : Fx) (own : List Addr) (s₀ s : Shared) : Prop :=
  (∀ (k : Nat) (y : GenState), s₀.gens[k]? = some y → s.gens[k]? = some y) ∧ AllBare s.gens ∧ s.os = X.os ∧ ∀ b o, b ∉ own → s₀.heap.get? b = some o → s.heap.get? b = some o
noncomputable def others (h₀ : Heap) (own : List Addr) (h : Heap) : List (Addr × Obj) := (List.range h.objs.size).filterMap fun b => if own.contains b || (h₀.get? b).isSome then none else (h.get? b).map (b, ·)
theorem mem_others {h₀ h : Heap} {own : List Addr} {b : Addr} {o : Obj} : (b, o) ∈ others h₀ own h ↔ b ∉ own ∧ h₀.get? b = none ∧ h.get? b = some o := by
  unfold others
  rw [List.mem_filterMap]
  constructor
  · rintro ⟨c, hc, h⟩
    split at h
    · cases h
    · rename_i q
      simp only [Bool.or_eq_true, not_or, Bool.not_eq_true, List.contains_eq_mem, decide_eq_false_iff_not] at q
      cases hg : h₀.get? c with
      | some o' => rw [hg] at q; cases q.2
      | none =>
        rename_i hh
        cases hq : hh.get? c with
        | none => rw [hq] at h; cases h
        | some o' => rw [hq] at h; cases h; exact ⟨q.1, hg, hq⟩
  · rintro ⟨h1, h2, h3⟩
    refine ⟨b, List.mem_range.mpr (Heap.lt_size h3), ?_⟩
    rw [if_neg (by simp [h1, h2]), h3]
    rfl
noncomputable def gensOf (s : Shared) : List (Nat × GenState) := (List.range s.gens.size).filterMap fun k => (s.gens[k]?).map (k, ·)
theorem mem_gensOf {k : Nat} {y : GenState} : (k, y) ∈ gensOf s ↔ s.gens[k]? = some y := by
  unfold gensOf
  rw [List.mem_filterMap]
  constructor
  · rintro ⟨c, hc, h⟩
    cases hq : s.gens[c]? with
    | none => rw [hq] at h; cases h
    | some o' => rw [hq] at h; cases h; exact hq
  · intro h
    exact ⟨k, List.mem_range.mpr (Array.getElem?_eq_some_iff.mp h).1, by rw [h]; rfl⟩
theorem Inv.kept {ext : List (Addr × Obj)} {gx : List (Nat × GenState)} (I : Inv W X ⟨ext, gx⟩ ρ l hp s) {own : List Addr} (hb : ∀ b o, X.h₀.get? b = some o → s₀.heap.get? b = some o) (he : ∀ e ∈ others X.h₀ own s₀.heap, e ∈ ext) (hg : ∀ e ∈ gensOf s₀, e ∈ gx) : Kept X own s₀ s := by
  refine ⟨fun k y h => I.gx (k, y) (hg _ (mem_gensOf.mpr h)), I.gens, I.os, fun b o h1 h2 => ?_⟩
  cases q : X.h₀.get? b with
  | some o' => have := hb b o' q; rw [this] at h2; cases h2; exact I.old b _ q
  | none => exact (I.hr.ext (b, o) (he _ (mem_others.mpr ⟨h1, q, h2⟩))).1
theorem LR.noRef {names : List Str} {m : Str → Option Value} (h : LR names ρ l m) (hl : ∀ (i k : Nat), l[i]? ≠ some (some (.ref k))) : LR names [] l m := fun i x v h1 h2 => by
  obtain ⟨v', a, b⟩ := h i x v h1 h2
  refine ⟨v', a, ?_⟩
  cases v with
  | ref k => exact absurd h2 (hl i k)
  | none => exact b
  | bool c => exact b
  | int c => exact b
  | str c => exact b
/-- the generator's frame at a later state -/
theorem Inv.again {ext : List (Addr × Obj)} {gx : List (Nat × GenState)} (I : Inv W X ⟨ext, gx⟩ ρ l hp s) (hl : ∀ (i k : Nat), l[i]? ≠ some (some (.ref k))) {own : List Addr} {oe : List (Addr × Obj)} {s' : Shared} (hoe : ∀ e ∈ oe, e ∈ ext) (hown : ∀ b, b ∈ own ↔ b = X.L ∨ ∃ e ∈ oe, b = e.1)
    (B : Basic X s') (hk : ∀ b ∈ own, ∀ o, s.heap.get? b = some o → s'.heap.get? b = some o) : Inv W X ⟨oe ++ others X.h₀ own s'.heap, gensOf s'⟩ [] l [] s' := by
  obtain ⟨m, F, lr⟩ := I.fr
  obtain ⟨oL, es, ep, hL, r⟩ := F.ns
  refine ⟨⟨m, ⟨⟨oL, es, ep, hk _ ((hown _).mpr (.inl rfl)) _ hL, r⟩, B.1, F.above⟩, lr.noRef hl⟩, ⟨rfl, fun k p o h1 h2 => by simp at h1, fun k p h => by simp at h, fun j k p q _ h => by simp at h, fun e he => ?_⟩, B.2.2, B.2.1, fun e he => mem_gensOf.mp he⟩
  rcases List.mem_append.mp he with he | he
  · obtain ⟨a, b, c, _⟩ := I.hr.ext e (hoe e he)
    exact ⟨hk _ ((hown _).mpr (.inr ⟨e, he, rfl⟩)) _ a, b, c, fun k p h => by simp at h⟩
  · obtain ⟨a, b, c⟩ := mem_others.mp (show (e.1, e.2) ∈ _ from he)
    exact ⟨c, fun q => a ((hown _).mpr (.inl q)), b, fun k p h => by simp at h⟩
end
end Mine
end

noncomputable section -- L1m
open PySem PySem.W PySem.Calls PyProof.Rows
set_option maxRecDepth 100000
set_option autoImplicit false
namespace Mine

/-! the one generator of the text: marks escaped by a backslash -/
noncomputable def escGo : Nat → Bool → List Nat → List (Nat × List Nat)
  | i, esc, [] => match esc with | true => [(i - 1, [92])] | false => []
  | i, true, c :: r => (i, [92, c]) :: escGo (i + 1) false r
  | i, false, c :: r => if c = 92 then escGo (i + 1) true r else (i, [c]) :: escGo (i + 1) false r
noncomputable def escEnd : Bool → List Nat → Bool
  | e, [] => e
  | true, _ :: r => escEnd false r
  | false, c :: r => escEnd (decide (c = 92)) r
noncomputable abbrev enumO (it : Addr) (i : Nat) (old : Value) : Obj := { cls := .type "enumerate", dict := none, data := .fields #[.none, .bool false, .ref it, rawInt i, .none, old], slots := #[] }
noncomputable def strO (x : List Nat) (t : Tok) (i : Nat) (o : Obj) : Prop := o.cls = .type (strIterType ⟨x.toArray⟩) ∧ o.data = .fields #[.str ⟨x.toArray⟩ t, .int i 0]

noncomputable def escY (X : Fx) (own : List Addr) (items : List (Nat × List Nat)) : Protocol := fun m s₀ v s kap =>
  (∃ (T : Addr) (n : Nat) (t u : Tok) (i : Nat) (x : List Nat), v = .ref T ∧ items[items.length - 1 - m]? = some (i, x) ∧ s.heap.get? T = some { cls := .type "tuple", data := .seq #[.int i t, .str ⟨x.toArray⟩ u] n } ∧ s₀.heap.get? T = none ∧ T ∉ own ∧ T ≠ X.L ∧ X.h₀.get? T = none) ∧
  Kept X own s₀ s ∧ (∀ b ∈ own, ∃ o, s.heap.get? b = some o) ∧ ∀ s'', Basic X s'' → (∀ b ∈ own, ∀ o, s.heap.get? b = some o → s''.heap.get? b = some o) → kap (.send .none) s''
noncomputable def escR (X : Fx) (own : List Addr) : GenEnd := fun n s₀ r s₁ => r = .ok (.ret .none) ∧ n = 0 ∧ Kept X own s₀ s₁

/-- the parts of the generator's body -/
structure EscParts where
  s1 : Stmt
  s2 : Stmt
  elts : List PySem.Expr
  kt : Nat
  pt : Pos
  iter : PySem.Expr
  t1 : PySem.Expr
  e1 : PySem.Expr
  s3 : Stmt
  t2 : PySem.Expr
  s4 : Stmt
  e2 : PySem.Expr
  t3 : PySem.Expr
  e3 : PySem.Expr
  p1 : Pos
  p2 : Pos
  p3 : Pos
  p4 : Pos
  p5 : Pos
  p6 : Pos
  p7 : Pos
  p8 : Pos
  p9 : Pos
  p10 : Pos
namespace EscParts
variable (p : EscParts)
noncomputable def inner : List Stmt := [.If p.t1 [.Expr (.Yield (some p.e1) p.p1) p.p2, p.s3] [.If p.t2 [p.s4] [.Expr (.Yield (some p.e2) p.p3) p.p4] p.p5] p.p6]
noncomputable def tgt : PySem.Expr := .Tuple p.elts p.kt p.pt
noncomputable def last : Stmt := .If p.t3 [.Expr (.Yield (some p.e3) p.p7) p.p8] [] p.p9
noncomputable def body : List Stmt := [p.s1, p.s2, .For p.tgt p.iter p.inner [] p.p10, p.last]
end EscParts
/-- a statement that stores a value and leaves the heap's size -/
noncomputable def SSz (W : Wd) (X : Fx) (st : Stmt) (i : Nat) (v : V) : Prop := ∀ (g : Gx) (E : Value → Shared → Prop) (ρ : Rho) (l : Loc) (hp : List O) (s : Shared) (Q : Flow → Shared → Prop), Inv W X g ρ l hp s →
  (∀ s', s'.heap.objs.size = s.heap.objs.size → Inv W X g ρ (l.set i (some v)) hp s' → Q .next s') → wpAny W.M X.A (exec st X.env) Q E s
/-- what they mean, the names being addr, pos, escape, ch -/
structure EscOk (W : Wd) (X : Fx) (p : EscParts) : Prop where
  s1 : SSz W X p.s1 1 (.int 0)
  s2 : SSz W X p.s2 2 (.bool false)
  iter : ∀ (g : Gx) (E : Value → Shared → Prop) (ρ : Rho) (l : Loc) (hp : List O) (s : Shared) (Q : Value → Shared → Prop) (x : List Nat), Inv W X g ρ l hp s → l[0]? = some (some (.str x)) →
    (∀ s' t, s'.heap.objs.size = s.heap.objs.size → Inv W X g ρ l hp s' → wpAny W.M X.A (call (.type "enumerate") [.str ⟨x.toArray⟩ t]) Q E s') → wpAny W.M X.A (eval p.iter X.env) Q E s
  tgt : STgt W X p.tgt (tPair 1 3)
  t1 : ST? W X p.t1 (bVal (eNm 2))
  e1 : SE W X (eval p.e1 X.env) (eTup (esCons (eNm 1) (esCons (eBin .Add (eStr [92]) (eNm 3)) esNil)))
  s3 : SS W X (exec p.s3 X.env) (sAsg 2 (eBool false))
  t2 : ST? W X p.t2 (bCmp .Eq (eNm 3) (eStr [92]))
  s4 : SS W X (exec p.s4 X.env) (sAsg 2 (eBool true))
  e2 : SE W X (eval p.e2 X.env) (eTup (esCons (eNm 1) (esCons (eNm 3) esNil)))
  t3 : ST? W X p.t3 (bVal (eNm 2))
  e3 : SE W X (eval p.e3 X.env) (eTup (esCons (eNm 1) (esCons (eStr [92]) esNil)))
  co : X.cs.isCoroutine = false
  ia : interactive X.env = false
  fold : ∀ x, foldedSetIterable p.iter X.env x = pure x
  len : X.names.length = 4

section
variable {W : Wd} {X : Fx} {g : Gx} {ρ : Rho} {l : Loc} {hp : List O} {s s₀ : Shared} {E : Value → Shared → Prop}

theorem strDraws {prog : Program} {w : World} {A : Around} (hh : A.handled = none) (it : Addr) (x : List Nat) (t : Tok) :
    Draws prog w A it [it] x.length (fun i v => ∃ c u, x[i]? = some c ∧ v = .str ⟨[c].toArray⟩ u) (fun i h => ∃ o, h.get? it = some o ∧ strO x t i o) := by
  have key : Draws prog w A it [it] (⟨x.toArray⟩ : Str).cps.size (fun i v => ∃ c u, (⟨x.toArray⟩ : Str).cps[i]? = some c ∧ v = .str ⟨#[c]⟩ u) (fun i h => h.IsStrIter it (strIterType ⟨x.toArray⟩) ⟨x.toArray⟩ t i) := by
    unfold strIterType
    split
    · exact Draws.strAscii hh it _ t
    · exact Draws.strWide hh it _ t
  refine ⟨key.live, key.frame, fun i s Q E hi st hQ => key.item i s Q E (by simpa using hi) st fun v h' tk hP => hQ v h' tk ?_, fun s Q E st hQ => key.done s Q E st hQ⟩
  obtain ⟨c, u, h1, h2⟩ := hP
  exact ⟨c, u, by simpa using h1, h2⟩

/-- one mark drawn -/
theorem esc_draw (ok : X.Ok W 0) {e it : Addr} {i c : Nat} {old : Value} {oit : Obj} {x : List Nat} {t : Tok} {ext : List (Addr × Obj)} {gx : List (Nat × GenState)} {elts : List PySem.Expr} {kt : Nat} {pt : Pos}
    (I : Inv W X ⟨(e, enumO it i old) :: (it, oit) :: ext, gx⟩ ρ l hp s) (hi : strO x t i oit) (ne : e ≠ it) (nx : ∀ y ∈ ext, y.1 ≠ e ∧ y.1 ≠ it) (hc : x[i]? = some c) {Q : Option Value → Shared → Prop}
    (hQ : ∀ (T : Addr) (s₁ : Shared), (∀ {Q' : Unit → Shared → Prop}, (∀ s₂ old' oit', strO x t (i + 1) oit' → Inv W X ⟨(e, enumO it (i + 1) old') :: (it, oit') :: ext, gx⟩ (ρ ++ [(T, T)]) l (hp ++ [.tup [.int i, .str [c]]]) s₂ → Q' () s₂) →
      wpAny W.M X.A (letOwnedTupleGo (.Tuple elts kt pt) (.ref e) (.ref T)) Q' E s₁) → Q (some (.ref T)) s₁) : wpAny W.M X.A (pyNext (.ref e)) Q E s := by
  obtain ⟨e1, e2, e3, e4⟩ := I.hr.ext (e, enumO it i old) (by simp)
  obtain ⟨i1, i2, i3, i4⟩ := I.hr.ext (it, oit) (by simp)
  have hlt : i < x.length := (List.getElem?_eq_some_iff.mp hc).1
  refine wpAny_pyNext_enum_itemD (strDraws (A := X.A.in1) ok.handled it x t) e1 ⟨oit, i1, hi⟩ hlt ne (by simpa using ne) fun v h' tk hv hO hS hT hz hk => ?_
  obtain ⟨c', u, hc', rfl⟩ := hv
  rw [hc] at hc'; cases hc'
  obtain ⟨oit', j1, j2⟩ := hS
  refine hQ _ _ fun {Q'} hQ' => ?_
  refine wpAny_letOwnedTupleGo_enum hO fun h₂ he₂ hs₂ => ?_
  have hse : e < s.heap.objs.size := Heap.lt_size e1
  have hsi : it < s.heap.objs.size := Heap.lt_size i1
  have k2 : ∀ b o, b ≠ e → h'.get? b = some o → h₂.get? b = some o := fun b o hb q => (hs₂.2 b hb).trans q
  have keep : ∀ b o, b ∉ [e, it] → s.heap.get? b = some o → h₂.get? b = some o := fun b o hb q => by
    simp only [List.mem_cons, List.not_mem_nil, or_false, not_or] at hb
    exact k2 b o hb.1 (hk b o hb.1 hb.2 q)
  have I₁ : Inv W X ⟨(e, enumO it (i + 1) (.str ⟨[c].toArray⟩ u)) :: (it, oit') :: ext, gx⟩ ρ l hp { s with heap := h₂, toks := tk + 1 } := by
    refine I.shift (own := [e, it]) keep (by simp only [List.mem_cons, List.not_mem_nil, or_false, not_or]; exact ⟨fun q => e2 q.symm, fun q => i2 q.symm⟩) (fun b hb => ?_) (fun k p hk' => ?_) (fun y hy => ?_) I.os I.gens I.gx
    · rcases List.mem_cons.mp hb with rfl | hb
      · exact e3
      · rw [List.mem_singleton.mp hb]; exact i3
    · obtain ⟨a1, a2⟩ := e4 k p hk'
      obtain ⟨b1, b2⟩ := i4 k p hk'
      simp only [List.mem_cons, List.not_mem_nil, or_false, not_or]
      exact ⟨⟨fun q => a1 q.symm, fun q => b1 q.symm⟩, fun q => a2 q.symm, fun q => b2 q.symm⟩
    · rcases List.mem_cons.mp hy with rfl | hy
      · have he₂' : h₂.get? e = some (enumO it (i + 1) (.str ⟨[c].toArray⟩ u)) := by
          have : (((i + 1 : Nat) : Int)) = (i : Int) + 1 := by push_cast; rfl
          show h₂.get? e = some { cls := .type "enumerate", dict := none, data := .fields #[.none, .bool false, .ref it, rawInt ((i + 1 : Nat) : Int), .none, _], slots := #[] }
          rw [this]; exact he₂
        exact ⟨he₂', e2, e3, e4⟩
      · rcases List.mem_cons.mp hy with rfl | hy
        · exact ⟨k2 _ _ (Ne.symm ne) j1, i2, i3, i4⟩
        · obtain ⟨a, b, c', d⟩ := I.hr.ext y (by simp [hy])
          obtain ⟨n1, n2⟩ := nx y hy
          exact ⟨keep _ _ (by simp [n1, n2]) a, b, c', d⟩
  have hT₂ : h₂.get? s.heap.objs.size = some { cls := .type "tuple", data := .seq #[.int i tk, .str ⟨[c].toArray⟩ u] } := k2 _ _ (Nat.ne_of_gt hse) hT
  have hn : s.heap.get? s.heap.objs.size = none := get_size_none _
  have I₂ := I₁.adopt (c := s.heap.objs.size) (o := .tup [.int i, .str [c]]) hT₂ (Nat.ne_of_gt I.Llt) (by
      cases q : X.h₀.get? s.heap.objs.size with
      | none => rfl
      | some o => exact absurd (I.old _ _ q) (by rw [hn]; simp)) (fun y hy => ?_) ⟨[.int i tk, .str ⟨[c].toArray⟩ u], 0, hT₂, .cons (VR.int _ _) (.one (VR.str _ _))⟩
  · exact hQ' _ _ _ j2 I₂
  · rcases List.mem_append.mp hy with hy | hy
    · obtain ⟨b, hb, hm⟩ := List.mem_filterMap.mp hy
      obtain ⟨p, hp1, hb⟩ := List.mem_flatMap.mp hb
      obtain ⟨k, hk'⟩ := List.mem_iff_getElem?.mp hp1
      have hb' : b = p.1 ∨ b = p.2 := by
        rcases List.mem_cons.mp hb with h | h
        · exact .inl h
        · exact .inr (List.mem_singleton.mp h)
      obtain ⟨_, _, ob, z⟩ := I.hr.own k p hk' b hb'
      have hy1 : y.1 = b := by
        cases q : h₂.get? b with
        | none => exact absurd hm (by simp only [q]; simp)
        | some o' =>
          have hm' : some (b, o') = some y := by rw [← hm]; show _ = (h₂.get? b).map _; rw [q]; rfl
          cases hm'; rfl
      rw [hy1]
      exact Nat.ne_of_lt (Heap.lt_size z)
    · rcases List.mem_cons.mp hy with rfl | hy
      · exact Nat.ne_of_lt hse
      · rcases List.mem_cons.mp hy with rfl | hy
        · exact Nat.ne_of_lt hsi
        · exact Nat.ne_of_lt (Heap.lt_size (I.hr.ext y (by simp [hy])).1)
/-- the marks at their end -/
theorem esc_done (ok : X.Ok W 0) {e it : Addr} {i : Nat} {old : Value} {oit : Obj} {x : List Nat} {t : Tok} {ext : List (Addr × Obj)} {gx : List (Nat × GenState)}
    (I : Inv W X ⟨(e, enumO it i old) :: (it, oit) :: ext, gx⟩ ρ l hp s) (hi : strO x t i oit) (ne : e ≠ it) (nx : ∀ y ∈ ext, y.1 ≠ e ∧ y.1 ≠ it) (hc : i = x.length) {Q : Option Value → Shared → Prop}
    (hQ : ∀ s₁, Inv W X ⟨(e, enumO it i old) :: ext, gx⟩ ρ l hp s₁ → Q none s₁) : wpAny W.M X.A (pyNext (.ref e)) Q E s := by
  obtain ⟨e1, e2, e3, e4⟩ := I.hr.ext (e, enumO it i old) (by simp)
  obtain ⟨i1, i2, i3, i4⟩ := I.hr.ext (it, oit) (by simp)
  refine wpAny_pyNext_enum_endD (strDraws (A := X.A.in1) ok.handled it x t) e1 ⟨oit, i1, by rw [← hc]; exact hi⟩ fun h' hx => ?_
  refine hQ _ (I.shift (own := [it]) (fun b o hb q => hx b o (by simpa using hb) q) (by simpa using fun q => i2 q.symm) (fun b hb => by rw [List.mem_singleton.mp hb]; exact i3) (fun k p hk => ?_) (fun y hy => ?_) I.os I.gens I.gx)
  · obtain ⟨b1, b2⟩ := i4 k p hk
    simp only [List.mem_cons, List.not_mem_nil, or_false]
    exact ⟨fun q => b1 q.symm, fun q => b2 q.symm⟩
  · rcases List.mem_cons.mp hy with rfl | hy
    · exact ⟨hx _ _ ne e1, e2, e3, e4⟩
    · obtain ⟨a, b, c', d⟩ := I.hr.ext y (by simp [hy])
      exact ⟨hx _ _ (nx y hy).2 a, b, c', d⟩
end
end Mine
end

noncomputable section -- L1n
open PySem PySem.W PySem.Calls PyProof.Rows
set_option maxRecDepth 100000
set_option autoImplicit false
namespace Mine

section
variable {W : Wd} {X : Fx} {g : Gx} {ρ : Rho} {l : Loc} {hp : List O} {s s₀ : Shared} {E : Value → Shared → Prop}

/-- a yield of a pair -/
theorem seg_pair {p : EscParts} (Ok : EscOk W X p) {e : PySem.Expr} {yp pos : Pos} {ev : EV} (he : SE W X (eval e X.env) ev) {ext : List (Addr × Obj)} {gx : List (Nat × GenState)} (I : Inv W X ⟨ext, gx⟩ ρ l hp s) {i : Nat} {y : List Nat}
    (hev : ev l hp fun v h => ∃ k, v = .ref k ∧ h[k]? = some (.tup [.int i, .str y])) {own : List Addr} {oe : List (Addr × Obj)} (hoe : ∀ e ∈ oe, e ∈ ext) (hown : ∀ b, b ∈ own ↔ b = X.L ∨ ∃ e ∈ oe, b = e.1)
    (hb : ∀ b o, X.h₀.get? b = some o → s₀.heap.get? b = some o) (hx : ∀ e ∈ others X.h₀ own s₀.heap, e ∈ ext) (hg : ∀ e ∈ gensOf s₀, e ∈ gx) (hl : ∀ (i k : Nat), l[i]? ≠ some (some (.ref k)))
    {items : List (Nat × List Nat)} {n : Nat} (hit : items[items.length - 1 - n]? = some (i, y)) {c : Code} {fs : List PySem.Frame} {K : Flow → Sem Fin} {H : Value → Sem Fin} (hA : X.A₀.over c fs = X.A) (hfs : splitAtGen fs = none) (hfg : fs.any Frame.guarded = false)
    (h : ∀ s'', Inv W X ⟨oe ++ others X.h₀ own s''.heap, gensOf s''⟩ [] l [] s'' → (∀ b o, X.h₀.get? b = some o → s''.heap.get? b = some o) → Seg W.M X.A₀ (escR X own) (escY X own items) n s'' c (K .next) fs s'') :
    Seg W.M X.A₀ (escR X own) (escY X own items) (n + 1) s₀ c ((exec (.Expr (.Yield (some e) yp) pos) X.env).wrap K H id id) fs s := by
  refine seg_Expr_Yield hfs rfl hfg ?_ Ok.co Ok.ia
  rw [hA]
  refine wpAny_mono (he _ noE ρ l hp s _ I hev) (fun v' s₁ h₁ => ?_) fun _ _ (x : False) => x.elim
  obtain ⟨ρ₁, v, hp₁, x₁, r₁, I₁, k, rfl, hk⟩ := h₁
  obtain ⟨q, vs, m, hq, rfl, gg, r⟩ := I₁.tupR hk r₁
  intro kap hkap
  have kp := I₁.kept hb hx hg
  obtain ⟨m₁, F₁, _⟩ := I₁.fr
  have live : ∀ b ∈ own, ∃ o, s₁.heap.get? b = some o := fun b hb => by
    rcases (hown _).mp hb with rfl | ⟨w, hw, rfl⟩
    · obtain ⟨o, _, _, h, _⟩ := F₁.ns; exact ⟨o, h⟩
    · exact ⟨_, (I₁.hr.ext w (hoe w hw)).1⟩
  refine ⟨?_, kp, live, fun s'' B hs => hkap .none s'' (h s'' (I₁.again hl hoe hown B hs) B.1)⟩
  cases r with
  | cons a b =>
    cases b with
    | cons b c =>
      cases c
      obtain ⟨t, rfl⟩ := a
      obtain ⟨u, rfl⟩ := b
      obtain ⟨nL, n0, _⟩ := I₁.hr.own k q hq q.1 (.inl rfl)
      have nown : q.1 ∉ own := fun hm => by
        rcases (hown _).mp hm with e | ⟨w, hw, e⟩
        · exact nL e
        · exact ((I₁.hr.ext w (hoe w hw)).2.2.2 k q hq).1 e.symm
      refine ⟨q.1, m, t, u, i, y, rfl, hit, gg, ?_, nown, nL, n0⟩
      cases z : s₀.heap.get? q.1 with
      | none => rfl
      | some o => exact absurd rfl ((I₁.hr.ext (q.1, o) (hx _ (mem_others.mpr ⟨nown, n0, z⟩))).2.2.2 k q hq).1

/-- a statement that does not yield -/
theorem seg_stmt {st : Stmt} {sx : ST} (hs : SS W X (exec st X.env) sx) {R : GenEnd} {Y : Protocol} {n : Nat} {c : Code} {fs : List PySem.Frame} {K : Flow → Sem Fin} {H : Value → Sem Fin} {gd lv} (hA : X.A₀.over c fs = X.A) (I : Inv W X g ρ l hp s)
    {P : Loc → List O → Prop} (hx : sx l hp fun o l' h' => o = .next ∧ P l' h') (h : ∀ ρ' l' h' s', Inv W X g ρ' l' h' s' → P l' h' → Seg W.M X.A₀ R Y n s₀ c (K .next) fs s') :
    Seg W.M X.A₀ R Y n s₀ c ((exec st X.env).wrap K H gd lv) fs s := by
  refine seg_tree ?_
  rw [hA]
  refine wpAny_mono (hs g _ ρ l hp s _ I hx) (fun f s₁ h₁ => ?_) fun _ _ x => x
  obtain ⟨ρ₁, o, l₁, hp₁, x₁, r₁, I₁, rfl, h₁⟩ := h₁
  cases r₁
  exact h ρ₁ l₁ hp₁ s₁ I₁ h₁

theorem noRef4 {x : List Nat} {i : Int} {b : Bool} {c : Option V} (hc : c = none ∨ ∃ y, c = some (.str y)) : ∀ (j k : Nat), ([some (.str x), some (.int i), some (.bool b), c] : Loc)[j]? ≠ some (some (.ref k)) := by
  intro j k
  match j with
  | 0 => simp
  | 1 => simp
  | 2 => simp
  | 3 => rcases hc with rfl | ⟨y, rfl⟩ <;> simp
  | j + 4 => simp

theorem esc_loop (ok : X.Ok W 0) {p : EscParts} (Ok : EscOk W X p) {e it : Addr} (ne : e ≠ it) (hL : X.L ≠ e ∧ X.L ≠ it) {x : List Nat} {t : Tok} {items : List (Nat × List Nat)} {K : Flow → Sem Fin} {H : Value → Sem Fin} {pp : Pos}
    (hfin : ∀ (s₀ s : Shared) (ρ : Rho) (hp : List O) (ext : List (Addr × Obj)) (gx : List (Nat × GenState)) (c : Option V), Inv W X ⟨ext, gx⟩ ρ [some (.str x), some (.int (x.length - 1 : Nat)), some (.bool false), c] hp s →
      (∀ b o, X.h₀.get? b = some o → s₀.heap.get? b = some o) → (∀ e' ∈ others X.h₀ [X.L, e, it] s₀.heap, e' ∈ ext) → (∀ e ∈ gensOf s₀, e ∈ gx) →
      Seg W.M X.A₀ (escR X [X.L, e, it]) (escY X [X.L, e, it] items) 0 s₀ (.func p.body X.env) (K .next) [] s) :
    ∀ (r pre : List Nat) (esc : Bool) (s₀ s : Shared) (ρ : Rho) (hp : List O) (ext : List (Addr × Obj)) (gx : List (Nat × GenState)) (old : Value) (oit : Obj) (c : Option V) (n : Nat), x = pre ++ r → (c = none ∨ ∃ y, c = some (.str y)) →
      Inv W X ⟨(e, enumO it pre.length old) :: (it, oit) :: ext, gx⟩ ρ [some (.str x), some (.int (pre.length - 1 : Nat)), some (.bool esc), c] hp s → strO x t pre.length oit →
      (∀ b o, X.h₀.get? b = some o → s₀.heap.get? b = some o) → (∀ e' ∈ others X.h₀ [X.L, e, it] s₀.heap, e' ∈ ext) → (∀ y ∈ ext, y.1 ≠ e ∧ y.1 ≠ it) → (∀ e ∈ gensOf s₀, e ∈ gx) → (∃ done, items = done ++ escGo pre.length esc r) → n = (escGo pre.length esc r).length → escEnd esc r = false →
      Seg W.M X.A₀ (escR X [X.L, e, it]) (escY X [X.L, e, it] items) n s₀ (.forLoop p.tgt (.ref e) p.inner [] X.env) (W.M.den (.forLoop p.tgt (.ref e) p.inner [] X.env)) [.ret (forK X.env K H id id) none false [] (.func p.body X.env) pp []] s := by
  intro r
  induction r with
  | nil =>
    intro pre esc s₀ s ρ hp ext gx old oit c n hx hc I hi hb ho hn hg hd hnn hend
    have hlen : pre.length = x.length := by rw [hx]; simp
    refine seg_forLoop ?_
    rw [over_for]
    refine esc_done ok I hi ne hn hlen fun s₁ I₁ => ?_
    refine seg_leaf (.ok .next) ?_
    rw [hlen] at I₁
    have he : esc = false := hend
    subst he
    have : n = 0 := hnn
    subst this
    exact hfin s₀ s₁ ρ hp _ gx c I₁ hb (fun y hy => List.mem_cons_of_mem _ (ho y hy)) hg
  | cons a r ih =>
    intro pre esc s₀ s ρ hp ext gx old oit c n hx hc I hi hb ho hn hg hd hnn hend
    have hget : x[pre.length]? = some a := by rw [hx]; simp
    have hx' : x = (pre ++ [a]) ++ r := by rw [hx]; simp
    have hpl : (pre ++ [a]).length = pre.length + 1 := by simp
    have hp1 : pre.length + 1 - 1 = pre.length := rfl
    refine seg_forLoop ?_
    rw [over_for]
    refine esc_draw ok I hi ne hn hget fun T s₁ hgo => hgo fun s₂ old' oit' hi' I₂ => ?_
    refine wpAny_mono (Ok.tgt _ _ _ _ _ _ (fun l' h' => l' = [some (.str x), some (.int pre.length), some (.bool esc), some (.str [a])]) (.ref hp.length) _ I₂ (I.ref_new (T, T)) ⟨_, _, .inl (List.getElem?_concat_length ..), rfl⟩) (fun _ s₃ h₃ => ?_) fun _ _ x => x
    obtain ⟨ρ₃, _, hp₃, x₃, I₃, rfl⟩ := h₃
    obtain ⟨done, hd⟩ := hd
    have hcA : X.A₀.over (.forLoop p.tgt (.ref e) p.inner [] X.env) [.ret (forK X.env K H id id) none false [] (.func p.body X.env) pp []] = X.A := over_for ..
    have hown : ∀ b, b ∈ [X.L, e, it] ↔ b = X.L ∨ ∃ y ∈ [(e, enumO it (pre.length + 1) old'), (it, oit')], b = y.1 := fun b => by simp
    -- the turn that follows
    have next : ∀ (esc' : Bool) (s₀' s' : Shared) (ρ' : Rho) (hp' : List O) (ext' : List (Addr × Obj)) (gx' : List (Nat × GenState)) (n' : Nat), Inv W X ⟨(e, enumO it (pre.length + 1) old') :: (it, oit') :: ext', gx'⟩ ρ' [some (.str x), some (.int pre.length), some (.bool esc'), some (.str [a])] hp' s' →
        (∀ b o, X.h₀.get? b = some o → s₀'.heap.get? b = some o) → (∀ e' ∈ others X.h₀ [X.L, e, it] s₀'.heap, e' ∈ ext') → (∀ y ∈ ext', y.1 ≠ e ∧ y.1 ≠ it) → (∀ e ∈ gensOf s₀', e ∈ gx') → (∃ done, items = done ++ escGo (pre.length + 1) esc' r) → n' = (escGo (pre.length + 1) esc' r).length → escEnd esc' r = false →
        Seg W.M X.A₀ (escR X [X.L, e, it]) (escY X [X.L, e, it] items) n' s₀' (.forLoop p.tgt (.ref e) p.inner [] X.env) (.pure (.again (.forLoop p.tgt (.ref e) p.inner [] X.env))) [.ret (forK X.env K H id id) none false [] (.func p.body X.env) pp []] s' := by
      intro esc' s₀' s' ρ' hp' ext' gx' n' I' hb' ho' hn' hg' hd' hnn' hend'
      refine seg_again rfl ?_
      have := ih (pre ++ [a]) esc' s₀' s' ρ' hp' ext' gx' old' oit' (some (.str [a])) n' hx' (.inr ⟨_, rfl⟩) (by rw [hpl]; exact I') (by rw [hpl]; exact hi') hb' ho' hn' hg' (by rw [hpl]; exact hd') (by rw [hpl]; exact hnn') hend'
      exact this
    have apart : ∀ (s'' : Shared) (y : Addr × Obj), y ∈ others X.h₀ [X.L, e, it] s''.heap → y.1 ≠ e ∧ y.1 ≠ it := fun s'' y hy => by
      have := (mem_others.mp (show (y.1, y.2) ∈ _ from hy)).1
      simp only [List.mem_cons, List.not_mem_nil, or_false, not_or] at this
      exact this.2
    refine seg_execs_cons (seg_If ?_)
    rw [hcA]
    refine wpAny_mono (Ok.t1 _ _ ρ₃ _ hp₃ s₃ (fun b _ => b = esc) I₃ ⟨.bool esc, rfl, rfl⟩) (fun b s₄ h₄ => ?_) fun _ _ x => x
    obtain ⟨ρ₄, hp₄, x₄, I₄, rfl⟩ := h₄
    cases b with
    | true =>
      have hgo : escGo pre.length true (a :: r) = (pre.length, [92, a]) :: escGo (pre.length + 1) false r := rfl
      rw [hgo] at hd hnn
      rw [List.length_cons] at hnn
      subst hnn
      refine seg_execs_cons (seg_pair Ok Ok.e1 I₄ (i := pre.length) (y := [92, a]) ?_ (oe := [(e, enumO it (pre.length + 1) old'), (it, oit')]) (fun y hy => by simp only [List.mem_cons, List.not_mem_nil, or_false] at hy; rcases hy with rfl | rfl <;> simp) hown hb (fun y hy => by simp [ho y hy]) hg (noRef4 (.inr ⟨_, rfl⟩)) ?_ hcA rfl rfl fun s'' I'' hb'' => ?_)
      · exact ⟨_, rfl, _, rfl, by show ([92] : List Nat).length + [a].length ≤ 2 ^ 20; simp, by show 2 ≤ 2 ^ 20; decide, _, rfl, List.getElem?_concat_length ..⟩
      · rw [hd]
        rw [List.length_append, List.length_cons]
        have : done.length + ((escGo (pre.length + 1) false r).length + 1) - 1 - (escGo (pre.length + 1) false r).length = done.length := by omega
        rw [this, List.getElem?_append_right (Nat.le_refl _), Nat.sub_self]; rfl
      · refine seg_execs_cons (seg_stmt (P := fun l' _ => l' = [some (.str x), some (.int pre.length), some (.bool false), some (.str [a])]) Ok.s3 hcA I'' ⟨rfl, rfl⟩ fun ρ' l' h' s' I' hl' => ?_)
        subst hl'
        refine seg_execs_nil ?_
        refine seg_execs_nil ?_
        exact next false s'' s' ρ' h' _ _ _ I' hb'' (fun y hy => hy) (apart s'') (fun y hy => hy) ⟨done ++ [(pre.length, [92, a])], by rw [hd]; simp⟩ rfl hend
    | false =>
      refine seg_execs_cons (seg_If ?_)
      rw [hcA]
      refine wpAny_mono (Ok.t2 _ _ ρ₄ _ hp₄ s₄ (fun b _ => b = decide ([a] = [92])) I₄ ⟨_, rfl, rfl⟩) (fun b s₅ h₅ => ?_) fun _ _ x => x
      obtain ⟨ρ₅, hp₅, x₅, I₅, hb5⟩ := h₅
      cases b with
      | true =>
        have ha : a = 92 := by have := of_decide_eq_true hb5.symm; simpa using this
        have hgo : escGo pre.length false (a :: r) = escGo (pre.length + 1) true r := by
          show (if a = 92 then _ else _) = _
          rw [if_pos ha]
        rw [hgo] at hd hnn
        refine seg_execs_cons (seg_stmt (P := fun l' _ => l' = [some (.str x), some (.int pre.length), some (.bool true), some (.str [a])]) Ok.s4 hcA I₅ ⟨rfl, rfl⟩ fun ρ' l' h' s' I' hl' => ?_)
        subst hl'
        refine seg_execs_nil ?_
        refine seg_execs_nil ?_
        refine seg_execs_nil ?_
        exact next true s₀ s' ρ' h' _ _ _ I' hb ho hn hg ⟨done, hd⟩ hnn (by have h2 := hend; unfold escEnd at h2; rw [decide_eq_true ha] at h2; exact h2)
      | false =>
        have ha : a ≠ 92 := by have := of_decide_eq_false hb5.symm; simpa using this
        have hgo : escGo pre.length false (a :: r) = (pre.length, [a]) :: escGo (pre.length + 1) false r := by
          show (if a = 92 then _ else _) = _
          rw [if_neg ha]
        rw [hgo] at hd hnn
        rw [List.length_cons] at hnn
        subst hnn
        refine seg_execs_cons (seg_pair Ok Ok.e2 I₅ (i := pre.length) (y := [a]) ?_ (oe := [(e, enumO it (pre.length + 1) old'), (it, oit')]) (fun y hy => by simp only [List.mem_cons, List.not_mem_nil, or_false] at hy; rcases hy with rfl | rfl <;> simp) hown hb (fun y hy => by simp [ho y hy]) hg (noRef4 (.inr ⟨_, rfl⟩)) ?_ hcA rfl rfl fun s'' I'' hb'' => ?_)
        · exact ⟨_, rfl, _, rfl, by show 2 ≤ 2 ^ 20; decide, _, rfl, List.getElem?_concat_length ..⟩
        · rw [hd]
          rw [List.length_append, List.length_cons]
          have : done.length + ((escGo (pre.length + 1) false r).length + 1) - 1 - (escGo (pre.length + 1) false r).length = done.length := by omega
          rw [this, List.getElem?_append_right (Nat.le_refl _), Nat.sub_self]; rfl
        · refine seg_execs_nil ?_
          refine seg_execs_nil ?_
          refine seg_execs_nil ?_
          exact next false s'' s'' [] [] _ _ _ I'' hb'' (fun y hy => hy) (apart s'') (fun y hy => hy) ⟨done ++ [(pre.length, [a])], by rw [hd]; simp⟩ rfl (by have h2 := hend; unfold escEnd at h2; rw [decide_eq_false ha] at h2; exact h2)
end
end Mine
end

noncomputable section -- L1o
open PySem PySem.W PySem.Calls PyProof.Rows
set_option maxRecDepth 100000
set_option autoImplicit false
namespace Mine

section
variable {W : Wd} {X : Fx} {g : Gx} {ρ : Rho} {l : Loc} {hp : List O} {s s₀ : Shared} {E : Value → Shared → Prop}
/-- the generator woken first -/
theorem esc_start (ok : X.Ok W 0) {p : EscParts} (Ok : EscOk W X p) {x : List Nat} (hend : escEnd false x = false) (B : Basic X s) {m : Str → Option Value} (hn : s.heap.Ns X.L m) (lr : LR X.names [] [some (.str x), none, none, none] m) :
    Seg W.M X.A₀ (escR X [X.L, s.heap.objs.size + 1, s.heap.objs.size]) (escY X [X.L, s.heap.objs.size + 1, s.heap.objs.size] (escGo 0 false x)) (escGo 0 false x).length s (.func p.body X.env) (W.M.den (.func p.body X.env)) [] s := by
  have I : Inv W X ⟨others X.h₀ [X.L, s.heap.objs.size + 1, s.heap.objs.size] s.heap, gensOf s⟩ [] [some (.str x), none, none, none] [] s := by
    refine ⟨⟨m, ⟨hn, B.1, ok.low⟩, lr⟩, ⟨rfl, fun k p o h1 h2 => by simp at h1, fun k p h => by simp at h, fun j k p q _ h => by simp at h, fun e he => ?_⟩, B.2.2, B.2.1, fun e he => mem_gensOf.mp he⟩
    obtain ⟨a, b, c⟩ := mem_others.mp (show (e.1, e.2) ∈ _ from he)
    exact ⟨c, fun q => a (by simp [q]), b, fun k p h => by simp at h⟩
  have hLlt : X.L < s.heap.objs.size := I.Llt
  refine seg_func (seg_execs_cons (seg_tree ?_))
  rw [over_func]
  refine Ok.s1 _ _ _ _ _ _ _ I fun s₁ z₁ I₁ => seg_execs_cons (seg_tree ?_)
  rw [over_func]
  refine Ok.s2 _ _ _ _ _ _ _ I₁ fun s₂ z₂ I₂ => seg_execs_cons (seg_For ?_ Ok.fold)
  rw [over_func]
  refine Ok.iter _ _ _ _ _ _ _ x I₂ rfl fun s₃ t z₃ I₃ => ?_
  have hz : s₃.heap.objs.size = s.heap.objs.size := by rw [z₃, z₂, z₁]
  refine call_enumerate_str fun h' he hit hsz hk => wpAny_pyIter_enum he fun pp => ?_
  rw [hz] at he hit ⊢
  obtain ⟨oit, j1, j2⟩ := hit
  have h0 : ∀ b, s.heap.objs.size ≤ b → X.h₀.get? b = none := fun b hb => by
    cases q : X.h₀.get? b with
    | none => rfl
    | some o => exact absurd (Nat.lt_of_lt_of_le (Heap.lt_size (B.1 b o q)) hb) (Nat.lt_irrefl _)
  have I₄ : Inv W X ⟨(s.heap.objs.size + 1, enumO s.heap.objs.size 0 .none) :: (s.heap.objs.size, oit) :: others X.h₀ [X.L, s.heap.objs.size + 1, s.heap.objs.size] s.heap, gensOf s⟩ [] [some (.str x), some (.int (0 - 1 : Nat)), some (.bool false), none] [] { s₃ with heap := h' } := by
    refine I₃.shift (own := []) (fun b o _ e => hk b o e) (by simp) (by simp) (by simp) (fun y hy => ?_) I₃.os I₃.gens I₃.gx
    rcases List.mem_cons.mp hy with rfl | hy
    · exact ⟨he, Nat.ne_of_gt (Nat.lt_succ_of_lt hLlt), h0 _ (Nat.le_succ _), fun k p h => by simp at h⟩
    · rcases List.mem_cons.mp hy with rfl | hy
      · exact ⟨j1, Nat.ne_of_gt hLlt, h0 _ (Nat.le_refl _), fun k p h => by simp at h⟩
      · obtain ⟨a, b, c, d⟩ := I₃.hr.ext y hy
        exact ⟨hk _ _ a, b, c, d⟩
  refine esc_loop ok Ok (Nat.succ_ne_self _) ⟨Nat.ne_of_lt (Nat.lt_succ_of_lt hLlt), Nat.ne_of_lt hLlt⟩ (fun s₀ s' ρ hp ext gx c I' hb ho hg => ?_) x [] false s _ [] [] _ _ .none oit none _ rfl (.inl rfl) I₄ j2 B.1 (fun y hy => hy) (fun y hy => ?_) (fun y hy => hy) ⟨[], rfl⟩ rfl hend
  · refine seg_execs_cons (seg_If ?_)
    rw [over_func]
    refine wpAny_mono (Ok.t3 _ _ ρ _ hp s' (fun b _ => b = false) I' ⟨.bool false, rfl, rfl⟩) (fun b s₅ h₅ => ?_) fun _ _ x => x
    obtain ⟨ρ₅, hp₅, x₅, I₅, rfl⟩ := h₅
    refine seg_execs_nil (seg_execs_nil ?_)
    exact seg_end (.ok (.ret .none)) ⟨rfl, rfl, I₅.kept hb ho hg⟩
  · have := Heap.lt_size (mem_others.mp (show (y.1, y.2) ∈ _ from hy)).2.2
    exact ⟨Nat.ne_of_lt (Nat.lt_succ_of_lt this), Nat.ne_of_lt this⟩

/-- pyNext of a generator of a def: what it leaves is bare -/
theorem gen_next {prog : Program} {w : World} {A : Around} {a : Addr} {gn n : Nat} {gs : GenState} {P : Nat → Shared → Shared → Prop} {Y : Protocol} {Q : Option Value → Shared → Prop} (hh : A.handled = none)
    (hl : s.heap.NoLimit) (hroom : A.depth < recursionLimit) (hg : s.heap.IsGen a gn) (hgs : s.gens[gn]? = some gs)
    (hgo : gs.Goes (model prog w) A.in1 (fun n s₀ r s₁ => r = .ok (.ret .none) ∧ P n s₀ s₁) Y n (.send .none) (s.setGen gn .running))
    (hY : ∀ v s₁ gs', gs'.bare = true → Y (n - 1) (s.setGen gn .running) v s₁ (fun r' s'' => match n with
        | 0 => False
        | m + 1 => gs'.Goes (model prog w) A.in1 (fun n s₀ r s₁ => r = .ok (.ret .none) ∧ P n s₀ s₁) Y m r' s'') → Q (some v) (s₁.setGen gn gs'))
    (hP : ∀ s₁, P n (s.setGen gn .running) s₁ → ∀ h', (∀ b o, s₁.heap.get? b = some o → h'.get? b = some o) → Q none { s₁.setGen gn .finished with heap := h' }) :
    wpAny (model prog w) A (pyNext (.ref a)) Q E s := by
  unfold pyNext
  refine wpAny_bind (wpAny_attempt (wpAny_callSpecial?_slot (name := Str.ofString "__next__") hg.typeIs slot_gen_next (wpAny_call_entry slot_gen_next hg.typeIs entry_gen_next ?_ (args_gen_next _))))
  show wpAny _ A.in1 (Builtin.Generator.genWake (.ref a) (.send .none)) _ _ s
  unfold Builtin.Generator.genWake
  refine wpAny_bind (wpAny_holding (wpAny_genNumber hg (wpAny_bind (wpAny_genState hgs ?_))))
  cases gs with
  | running => exact hgo.elim
  | finished => exact hgo.elim
  | _ =>
    refine wpAny_bind (wpAny_roomToWake hl hroom ?_)
    show wpAny _ A.in1 (.resume gn (.send .none) [] _) _ _ s
    refine wpAny_resumeQ hgs hgo (fun x s₁ hx => ?_) (fun v s₁ gs' hb hv => ?_)
    · obtain ⟨rfl, hp⟩ := hx
      show wpAny _ _ (newExc (.type "StopIteration") [] >>= _) _ _ _
      refine wpAny_bind ?_
      simp only [newExc, newTuple]
      refine wpAny_bind (wpAny_newObj_type ?_ (by size_fits))
      refine wpAny_bind (m := firstArgMember _ _) (wpAny_of_eq (a := Value.none) (by first | rfl | (simp only [firstArgMember]; rfl)) ?_)
      refine wpAny_newObj_type ?_ (by size_fits)
      simp only [raiseNew]
      refine wpAny_bind (wpAny_bind (wpAny_handled ?_))
      rw [show A.in1.handled = none from hh]
      refine wpAny_throw ?_
      refine wpAny_bind (wpAny_isInstance (T := "StopIteration") (b := true) ⟨_, Heap.get?_push_size _ rfl, rfl⟩ isSubtype_stop ?_)
      exact wpAny_pure (hP s₁ hp _ fun b o hb => Heap.get?_push_of_some _ (Heap.get?_push_of_some _ hb))
    · exact wpAny_pure ⟨v, rfl, wpAny_pure (hY v s₁ gs' hb hv)⟩
end
end Mine
end

noncomputable section -- L1p
open PySem PySem.W PySem.Calls PyProof.Rows
set_option maxRecDepth 100000
set_option autoImplicit false
namespace Mine

theorem allBare_set {gens : Array GenState} (h : AllBare gens) {g : Nat} {y : GenState} (hy : y.bare = true) : AllBare (gens.setIfInBounds g y) := by
  intro z hz
  obtain ⟨i, hi, rfl⟩ := Array.mem_iff_getElem.mp hz
  have hi' : i < gens.size := by simpa using hi
  rw [Array.getElem_setIfInBounds hi']
  split
  · exact hy
  · exact h _ (Array.getElem_mem _)
theorem setGen_other {s : Shared} {g k : Nat} {y : GenState} (h : k ≠ g) : (s.setGen g y).gens[k]? = s.gens[k]? := by
  simp [Shared.setGen, Ne.symm h]
theorem Basic.run {X : Fx} {s : Shared} (B : Basic X s) (g : Nat) : Basic X (s.setGen g .running) := ⟨B.1, allBare_set B.2.1 rfl, B.2.2⟩

/-- a generator at hand -/
structure GenD where
  a : Addr
  gn : Nat
  X : Fx
  x : List Nat
noncomputable def GenD.items (D : GenD) : List (Nat × List Nat) := escGo 0 false D.x
/-- what protects it after j marks -/
structure GenSt (W : Wd) (A' : Around) (D : GenD) (j : Nat) (xg : Gx) : Prop where
  isgen : ∃ oa nm qn, (D.a, oa) ∈ xg.ext ∧ oa.cls = .type "generator" ∧ oa.data = .fields #[.int D.gn 0, nm, qn] ∧ oa.slots = #[]
  gx : ∃ gs, xg.gx = [(D.gn, gs)] ∧ ∀ s : Shared, Basic D.X s → (∀ e ∈ xg.ext, s.heap.get? e.1 = some e.2) → ∃ own : List Addr, (∀ b ∈ own, b ≠ D.a ∧ ((∃ o, (b, o) ∈ xg.ext) ∨ s.heap.objs.size ≤ b)) ∧
    gs.Goes W.M A'.in1 (escR D.X own) (escY D.X own D.items) (D.items.length - j) (.send .none) (s.setGen D.gn .running)

section
variable {W : Wd} {X : Fx} {g : Gx} {ρ : Rho} {l : Loc} {hp : List O} {s s₀ : Shared} {E : Value → Shared → Prop} {A' : Around} {D : GenD} {xg : Gx} {j d : Nat}

theorem own_apart (I : Inv W X ⟨xg.ext ++ g.ext, xg.gx ++ g.gx⟩ ρ l hp s) {own : List Addr} (ho : ∀ b ∈ own, b ≠ D.a ∧ ((∃ o, (b, o) ∈ xg.ext) ∨ s.heap.objs.size ≤ b)) :
    X.L ∉ own ∧ (∀ b ∈ own, X.h₀.get? b = none) ∧ (∀ (k : Nat) (p : Addr × Addr), ρ[k]? = some p → p.1 ∉ own ∧ p.2 ∉ own) := by
  refine ⟨fun h => ?_, fun b h => ?_, fun k p hk => ⟨fun h => ?_, fun h => ?_⟩⟩
  · rcases (ho _ h).2 with ⟨o, ho⟩ | q
    · exact (I.hr.ext _ (List.mem_append_left _ ho)).2.1 rfl
    · exact absurd I.Llt (Nat.not_lt.mpr q)
  · rcases (ho _ h).2 with ⟨o, ho⟩ | q
    · exact (I.hr.ext _ (List.mem_append_left _ ho)).2.2.1
    · cases z : X.h₀.get? b with
      | none => rfl
      | some o => exact absurd (Heap.lt_size (I.old b o z)) (Nat.not_lt.mpr q)
  · rcases (ho _ h).2 with ⟨o, ho⟩ | q
    · exact ((I.hr.ext _ (List.mem_append_left _ ho)).2.2.2 k p hk).1 rfl
    · obtain ⟨_, _, ob, z⟩ := I.hr.own k p hk p.1 (.inl rfl)
      exact absurd (Heap.lt_size z) (Nat.not_lt.mpr q)
  · rcases (ho _ h).2 with ⟨o, ho⟩ | q
    · exact ((I.hr.ext _ (List.mem_append_left _ ho)).2.2.2 k p hk).2 rfl
    · obtain ⟨_, _, ob, z⟩ := I.hr.own k p hk p.2 (.inr rfl)
      exact absurd (Heap.lt_size z) (Nat.not_lt.mpr q)

theorem gen_step (ok : X.Ok W d) (hh : A'.handled = none) (hroom : A'.depth < recursionLimit) (hX : D.X.h₀ = X.h₀ ∧ D.X.os = X.os) (I : Inv W X ⟨xg.ext ++ g.ext, xg.gx ++ g.gx⟩ ρ l hp s) (st : GenSt W A' D j xg)
    (ap : ∀ y ∈ g.ext, ∀ p ∈ xg.ext, y.1 ≠ p.1) (apg : ∀ y ∈ g.gx, y.1 ≠ D.gn) {i : Nat} {y : List Nat} (hj : D.items[j]? = some (i, y)) {Q : Option Value → Shared → Prop}
    (hQ : ∀ T xg' s', GenSt W A' D (j + 1) xg' → (∀ y ∈ g.ext, ∀ p ∈ xg'.ext, y.1 ≠ p.1) → Inv W X ⟨xg'.ext ++ g.ext, xg'.gx ++ g.gx⟩ (ρ ++ [(T, T)]) l (hp ++ [.tup [.int i, .str y]]) s' → Q (some (.ref T)) s') :
    wpAny W.M A' (pyNext (.ref D.a)) Q E s := by
  obtain ⟨⟨oa, nm, qn, ha, a1, a2, a3⟩, gs, hgx, hgo⟩ := st
  have hext := I.hr.ext
  have live : ∀ e ∈ xg.ext, s.heap.get? e.1 = some e.2 := fun e he => (hext e (List.mem_append_left _ he)).1
  have B : Basic D.X s := ⟨fun b o e => I.old b o (by rw [← hX.1]; exact e), I.gens, by rw [hX.2]; exact I.os⟩
  obtain ⟨own, hown, hgo⟩ := hgo s B live
  have hgs : s.gens[D.gn]? = some gs := I.gx (D.gn, gs) (by rw [hgx]; simp)
  have hjl : j < D.items.length := (List.getElem?_eq_some_iff.mp hj).1
  obtain ⟨m, hm⟩ : ∃ m, D.items.length - j = m + 1 := ⟨D.items.length - j - 1, by lia⟩
  rw [hm] at hgo
  obtain ⟨o1, o2, o3⟩ := own_apart I hown
  have hr := setGen_self (x := .running) hgs
  refine gen_next (P := fun n s₀ s₁ => n = 0 ∧ Kept D.X own s₀ s₁) hh (ok.T.nolimit.keeps I.old) hroom ⟨oa, nm, qn, live _ ha, a1, a2, a3⟩ hgs hgo (fun v s₁ gs' hb hv => ?_) (fun s₁ hp' => absurd hp'.1 (Nat.succ_ne_zero m))
  obtain ⟨⟨T, n, t, u, i', y', rfl, hit, hT, hf, hTo, hTL, hT0⟩, ⟨k1, k2, k3, k4⟩, lv, kap⟩ := hv
  have hidx : D.items.length - 1 - (m + 1 - 1) = j := by lia
  rw [hidx, hj] at hit
  cases hit
  have hk : ∀ b o, b ∉ own → s.heap.get? b = some o → s₁.heap.get? b = some o := fun b o hb e => k4 b o hb e
  have hrun := k1 _ _ hr
  have haL := hext _ (List.mem_append_left _ ha)
  have hao : D.a ∉ own := fun h => (hown _ h).1 rfl
  have gap : ∀ y ∈ g.ext, y.1 ∉ own := fun y hy h => by
    rcases (hown _ h).2 with ⟨o, ho⟩ | q
    · exact ap y hy _ ho rfl
    · exact absurd (Heap.lt_size (hext y (List.mem_append_right _ hy)).1) (Nat.not_lt.mpr q)
  let xe : List (Addr × Obj) := own.filterMap fun b => (s₁.heap.get? b).map (b, ·)
  have mem_xe : ∀ b o, (b, o) ∈ xe ↔ b ∈ own ∧ s₁.heap.get? b = some o := fun b o => by
    show (b, o) ∈ own.filterMap _ ↔ _
    rw [List.mem_filterMap]
    constructor
    · rintro ⟨c, hc, h⟩
      cases z : s₁.heap.get? c with
      | none => rw [z] at h; cases h
      | some o' => rw [z] at h; cases h; exact ⟨hc, z⟩
    · rintro ⟨h1, h2⟩
      exact ⟨b, h1, by rw [h2]; rfl⟩
  have hT0' : s.heap.get? T = none := hf
  have ap' : ∀ y ∈ g.ext, ∀ p ∈ (D.a, oa) :: xe, y.1 ≠ p.1 := fun y hy p hp' e => by
    rcases List.mem_cons.mp hp' with rfl | hp'
    · exact ap y hy _ ha e
    · exact gap y hy (e ▸ ((mem_xe p.1 p.2).mp hp').1)
  have I₁ : Inv W X ⟨((D.a, oa) :: xe) ++ g.ext, [(D.gn, gs')] ++ g.gx⟩ ρ l hp (s₁.setGen D.gn gs') := by
    refine I.shift (own := own) (s' := s₁.setGen D.gn gs') hk o1 o2 o3 (fun e he => ?_) (by rw [← hX.2]; exact k3) (allBare_set k2 hb) (fun e he => ?_)
    · rcases List.mem_append.mp he with he | he
      · rcases List.mem_cons.mp he with rfl | he
        · exact ⟨hk _ _ hao haL.1, haL.2⟩
        · obtain ⟨b1, b2⟩ := (mem_xe e.1 e.2).mp he
          refine ⟨b2, fun q => o1 (q ▸ b1), o2 _ b1, fun k p hp' => ?_⟩
          obtain ⟨c1, c2⟩ := o3 k p hp'
          exact ⟨fun q => c1 (q ▸ b1), fun q => c2 (q ▸ b1)⟩
      · obtain ⟨b1, b2⟩ := hext e (List.mem_append_right _ he)
        exact ⟨hk _ _ (gap e he) b1, b2⟩
    · rcases List.mem_append.mp he with he | he
      · rw [List.mem_singleton.mp he]
        exact setGen_self hrun
      · have q := I.gx e (List.mem_append_right _ he)
        have ne := apg e he
        rw [setGen_other ne]
        exact k1 _ _ (by rw [setGen_other ne]; exact q)
  have I₂ := I₁.adopt (c := T) (o := .tup [.int i, .str y]) hT (fun q => by rw [q] at hT0'; obtain ⟨m', F, _⟩ := I.fr; obtain ⟨o, _, _, z, _⟩ := F.ns; rw [z] at hT0'; cases hT0') (by rw [← hX.1]; exact hT0) (fun e he => ?_)
    ⟨[.int i t, .str ⟨y.toArray⟩ u], n, hT, .cons (VR.int _ _) (.one (VR.str _ _))⟩
  · refine hQ T ⟨(D.a, oa) :: xe, [(D.gn, gs')]⟩ _ ⟨⟨oa, nm, qn, .head _, a1, a2, a3⟩, gs', rfl, fun s'' B'' hk'' => ⟨own, fun b hb' => ⟨(hown b hb').1, .inl ?_⟩, ?_⟩⟩ ap' I₂
    · obtain ⟨o, z⟩ := lv b hb'
      exact ⟨o, List.mem_cons_of_mem _ ((mem_xe b o).mpr ⟨hb', z⟩)⟩
    · have e : D.items.length - (j + 1) = m := by lia
      rw [e]
      exact kap (s''.setGen D.gn .running) (B''.run _) fun b hb' o z => hk'' (b, o) (List.mem_cons_of_mem _ ((mem_xe b o).mpr ⟨hb', z⟩))
  · rcases List.mem_append.mp he with he | he
    · obtain ⟨b, hb', hm'⟩ := List.mem_filterMap.mp he
      obtain ⟨p, hp1, hb'⟩ := List.mem_flatMap.mp hb'
      obtain ⟨k, hk'⟩ := List.mem_iff_getElem?.mp hp1
      have hb2 : b = p.1 ∨ b = p.2 := by
        rcases List.mem_cons.mp hb' with h | h
        · exact .inl h
        · exact .inr (List.mem_singleton.mp h)
      obtain ⟨_, _, ob, z⟩ := I.hr.own k p hk' b hb2
      have hy1 : e.1 = b := by
        cases q : (s₁.setGen D.gn gs').heap.get? b with
        | none => rw [q] at hm'; cases hm'
        | some o' => rw [q] at hm'; cases hm'; rfl
      rw [hy1]
      intro q
      rw [q, hT0'] at z
      cases z
    · rcases List.mem_append.mp he with he | he
      · rcases List.mem_cons.mp he with rfl | he
        · intro q
          have := haL.1
          rw [show (D.a, oa).1 = D.a from rfl] at this
          rw [show D.a = T from q, hT0'] at this
          cases this
        · exact fun q => hTo (q ▸ ((mem_xe e.1 e.2).mp he).1)
      · intro q
        have := (hext e (List.mem_append_right _ he)).1
        rw [q, hT0'] at this
        cases this

theorem gen_stop (ok : X.Ok W d) (hh : A'.handled = none) (hroom : A'.depth < recursionLimit) (hX : D.X.h₀ = X.h₀ ∧ D.X.os = X.os) (I : Inv W X ⟨xg.ext ++ g.ext, xg.gx ++ g.gx⟩ ρ l hp s) (st : GenSt W A' D j xg)
    (ap : ∀ y ∈ g.ext, ∀ p ∈ xg.ext, y.1 ≠ p.1) (apg : ∀ y ∈ g.gx, y.1 ≠ D.gn) (hj : j = D.items.length) {Q : Option Value → Shared → Prop} (hQ : ∀ s', Inv W X g ρ l hp s' → Q none s') :
    wpAny W.M A' (pyNext (.ref D.a)) Q E s := by
  obtain ⟨⟨oa, nm, qn, ha, a1, a2, a3⟩, gs, hgx, hgo⟩ := st
  have hext := I.hr.ext
  have live : ∀ e ∈ xg.ext, s.heap.get? e.1 = some e.2 := fun e he => (hext e (List.mem_append_left _ he)).1
  have B : Basic D.X s := ⟨fun b o e => I.old b o (by rw [← hX.1]; exact e), I.gens, by rw [hX.2]; exact I.os⟩
  obtain ⟨own, hown, hgo⟩ := hgo s B live
  have hgs : s.gens[D.gn]? = some gs := I.gx (D.gn, gs) (by rw [hgx]; simp)
  rw [hj, Nat.sub_self] at hgo
  obtain ⟨o1, o2, o3⟩ := own_apart I hown
  have gap : ∀ y ∈ g.ext, y.1 ∉ own := fun y hy h => by
    rcases (hown _ h).2 with ⟨o, ho⟩ | q
    · exact ap y hy _ ho rfl
    · exact absurd (Heap.lt_size (hext y (List.mem_append_right _ hy)).1) (Nat.not_lt.mpr q)
  refine gen_next (P := fun n s₀ s₁ => n = 0 ∧ Kept D.X own s₀ s₁) hh (ok.T.nolimit.keeps I.old) hroom ⟨oa, nm, qn, live _ ha, a1, a2, a3⟩ hgs hgo (fun v s₁ gs' hb hv => ?_) (fun s₁ hp' h' hk' => ?_)
  · obtain ⟨_, ⟨k1, k2, k3, k4⟩, lv, kap⟩ := hv
    exact (kap s₁ ⟨fun b o e => k4 b o (fun h => by have := o2 b h; rw [hX.1, this] at e; cases e) (B.1 b o e), k2, k3⟩ fun _ _ _ e => e).elim
  · obtain ⟨_, k1, k2, k3, k4⟩ := hp'
    refine hQ _ (I.shift (own := own) (s' := { s₁.setGen D.gn .finished with heap := h' }) (fun b o hb e => hk' b o (k4 b o hb e)) o1 o2 o3 (fun e he => ?_) (by rw [← hX.2]; exact k3) (allBare_set k2 rfl) (fun e he => ?_))
    · obtain ⟨b1, b2⟩ := hext e (List.mem_append_right _ he)
      exact ⟨hk' _ _ (k4 _ _ (gap e he) b1), b2⟩
    · have q := I.gx e (List.mem_append_right _ he)
      have ne := apg e he
      show (s₁.setGen D.gn .finished).gens[e.1]? = _
      rw [setGen_other ne]
      exact k1 _ _ (by rw [setGen_other ne]; exact q)
end
end Mine
end

noncomputable section -- L1q
open PySem PySem.W PySem.Calls PyProof.Rows
set_option maxRecDepth 100000
set_option autoImplicit false
namespace Mine

/-- a generator's def of the text -/
structure IsGenDef (W : Wd) (a : Addr) (qual : Str) (p : EscParts) (scope : Scope) (nms : List Str) : Prop where
  fn : ∃ (name : Str) (params : Arguments) (dV kV doc pm cdv ct oc : Value) (an od : Option Addr) (osl : Array (Option Value)),
    W.K.lookup a = some ⟨oc, od, .func (fnOf name qual params p.body scope dV kV doc pm an cdv ct), osl⟩ ∧ codeIn W.K cdv qual = true ∧
    ∀ (x : List Nat) (v' : Value) (s : Shared), VR [] (.str x) v' → W.K.In s.heap →
      ∃ binds, BindsTo s (fnOf name qual params p.body scope dV kV doc pm an cdv ct) ⟨[v'], []⟩ binds ∧ (∀ y ∈ binds, scope.names.lookup y.1 = some .local) ∧ LR nms [] [some (.str x), none, none, none] (fun y => binds.reverse.lookup y)
  co : scope.isCoroutine = false
  gen : scope.isGenerator = true
  kind : scope.kind = .function
  cell : ∀ x ∈ scope.names, x.2 ≠ .cell
  names : ∀ (i : Nat) (x : Str), nms[i]? = some x → scope.names.lookup x = some .local ∧ (x == ("__debug__" : Str)) = false
  nodup : nms.Nodup
  esc : ∀ X : Fx, X.Ok W 0 → X.cs = scope → X.names = nms → EscOk W X p
  keep : keepIn W.K (.ref a) = true

section
variable {W : Wd} {X : Fx} {g : Gx} {ρ : Rho} {l : Loc} {hp : List O} {s s₀ : Shared} {E : Value → Shared → Prop} {d : Nat}

/-- what a made generator gives -/
structure Made (W : Wd) (X : Fx) (x : List Nat) (a : Addr) (gn : Nat) (xg : Gx) (D : Around → GenD) : Prop where
  d : ∀ A', (D A').a = a ∧ (D A').gn = gn ∧ (D A').x = x ∧ (D A').X.h₀ = X.h₀ ∧ (D A').X.os = X.os
  st : ∀ A' : Around, A'.handled = none → A'.depth ≤ X.A.depth → A'.units ≤ X.A.units + 4 → GenSt W A' (D A') 0 xg

theorem gen_make {a : Addr} {qual : Str} {p : EscParts} {scope : Scope} {nms : List Str} (Dg : IsGenDef W a qual p scope nms) (ok : X.Ok W (d + 1)) (I : Inv W X g ρ l hp s) {x : List Nat} {v' : Value} (hv : VR ρ (.str x) v') (hend : escEnd false x = false)
    {Q : Value → Shared → Prop} (hQ : ∀ a' gn xg D s', Made W X x a' gn xg D → Inv W X ⟨xg.ext ++ g.ext, xg.gx ++ g.gx⟩ ρ l hp s' → (∀ y ∈ g.ext, ∀ p ∈ xg.ext, y.1 ≠ p.1) → (∀ y ∈ g.gx, y.1 ≠ gn) → Q (.ref a') s') :
    wpAny W.M X.A (call (.ref a) [v']) Q E s := by
  obtain ⟨name, params, dV, kV, doc, pm, cdv, ct, oc, an, od, osl, ho, hcd, hbind⟩ := Dg.fn
  have hv0 : VR [] (.str x) v' := hv
  obtain ⟨binds, hB, hloc, lr₀⟩ := hbind x v' s hv0 (ok.K.keeps I.old)
  refine wpAny_call ?_
  refine codeAny_call_generator (body := p.body) (by have := ok.depth; omega) ((ok.K.keeps I.old) _ _ ho) rfl Dg.co Dg.gen rfl (codeRec_of (ok.K.keeps I.old) hcd) ?_
  refine hB _ _ _ _ ?_
  refine wpAny_newFunctionEnv Dg.cell hloc (fun h' hn hs => ?_) Dg.kind
  have hsz : h'.objs.size = s.heap.objs.size + 1 := by rw [hs.1, Heap.size_push]
  have keep' : ∀ b o, s.heap.get? b = some o → h'.get? b = some o := fun b o e => hs.extBut b o (Nat.ne_of_lt (Heap.lt_size e)) (Heap.get?_push_of_some _ e)
  refine ⟨ok.T.nolimit.keeps fun b o e => keep' b o (I.old b o e), ?_⟩
  show Q (.ref h'.objs.size) _
  have hn0 := hn
  obtain ⟨oL, es, ep, hL, hnr⟩ := hn
  have h0 : ∀ b, s.heap.objs.size ≤ b → X.h₀.get? b = none := fun b hb => by
    cases q : X.h₀.get? b with
    | none => rfl
    | some o => exact absurd (Nat.lt_of_lt_of_le (Heap.lt_size (I.old b o q)) hb) (Nat.lt_irrefl _)
  have hLX : X.L < s.heap.objs.size := I.Llt
  let env' : Env := envOf qual scope s.heap.objs.size a cdv
  let D : Around → GenD := fun A' => ⟨h'.objs.size, s.gens.size, { A₀ := A'.in1, base := X.base, outer := [], h₀ := X.h₀, L := s.heap.objs.size, cn := qual, cs := scope, a := a, ccd := cdv, names := nms, os := X.os }, x⟩
  have keep5 : ∀ (o : Obj) b ob, s.heap.get? b = some ob → (h'.push o).get? b = some ob := fun o b ob e => Heap.get?_push_of_some _ (keep' b ob e)
  refine hQ h'.objs.size s.gens.size ⟨[(h'.objs.size, { cls := .type "generator", data := .fields #[.int s.gens.size 0, .str name (s.toks + binds.length), .str qual (s.toks + binds.length + 1)] }), (s.heap.objs.size, oL)], [(s.gens.size, .fresh (.func p.body env'))]⟩ D _ ⟨fun A' => ⟨rfl, rfl, rfl, rfl, rfl⟩, fun A' hh hdep hun => ?_⟩ ?_ ?_ ?_
  · refine ⟨⟨_, _, _, .head _, rfl, rfl, rfl⟩, _, rfl, fun s'' B hk => ?_⟩
    have hLs := hk (s.heap.objs.size, oL) (by simp)
    refine ⟨[s.heap.objs.size, s''.heap.objs.size + 1, s''.heap.objs.size], fun b hb => ?_, rfl, ?_⟩
    · have hgs := Heap.lt_size (hk (h'.objs.size, _) (.head _))
      have hgs' : h'.objs.size < s''.heap.objs.size := hgs
      have hD : (D A').a = h'.objs.size := rfl
      rw [hD]
      rcases List.mem_cons.mp hb with rfl | hb
      · exact ⟨by rw [hsz]; exact Nat.ne_of_lt (Nat.lt_succ_self _), .inl ⟨oL, by simp⟩⟩
      · rcases List.mem_cons.mp hb with rfl | hb
        · exact ⟨Nat.ne_of_gt (Nat.lt_succ_of_lt hgs'), .inr (Nat.le_succ _)⟩
        · rw [List.mem_singleton.mp hb]
          exact ⟨Nat.ne_of_gt hgs', .inr (Nat.le_refl _)⟩
    · have okg : (D A').X.Ok W 0 := {
        B := fun h => absurd h (Nat.lt_irrefl _)
        K := ok.K
        T := ok.T
        kind := Dg.kind
        depth := by show A'.depth + 1 + 0 < _; have := ok.depth; omega
        units := by show A'.units + 1 + 3 + 8 * 0 + 100 < _; have := ok.units; omega
        handled := hh
        names := Dg.names
        nodup := Dg.nodup
        low := by
          show X.h₀.objs.size ≤ s.heap.objs.size
          exact Nat.le_trans ok.low (Nat.le_of_lt hLX) }
      have := esc_start (s := s''.setGen (D A').gn .running) okg (Dg.esc _ okg rfl rfl) hend (B.run _) (m := fun y => binds.reverse.lookup y) ⟨oL, es, ep, hLs, hnr⟩ lr₀
      exact this
  · refine I.shift (own := []) (fun b o _ e => keep5 _ b o e) (by simp) (by simp) (by simp) (fun e he => ?_) I.os ?_ (fun e he => ?_)
    · rcases List.mem_append.mp he with he | he
      · rcases List.mem_cons.mp he with rfl | he
        · refine ⟨Heap.get?_push_size _ rfl, ?_, h0 _ (by rw [hsz]; exact Nat.le_succ _), fun k q hk => ?_⟩
          · rw [hsz]; exact Nat.ne_of_gt (Nat.lt_succ_of_lt hLX)
          · obtain ⟨_, _, o1, z1⟩ := I.hr.own k q hk q.1 (.inl rfl)
            obtain ⟨_, _, o2, z2⟩ := I.hr.own k q hk q.2 (.inr rfl)
            rw [hsz]
            exact ⟨Nat.ne_of_gt (Nat.lt_succ_of_lt (Heap.lt_size z1)), Nat.ne_of_gt (Nat.lt_succ_of_lt (Heap.lt_size z2))⟩
        · rw [List.mem_singleton.mp he]
          refine ⟨Heap.get?_push_of_some _ hL, Nat.ne_of_gt hLX, h0 _ (Nat.le_refl _), fun k q hk => ?_⟩
          obtain ⟨_, _, o1, z1⟩ := I.hr.own k q hk q.1 (.inl rfl)
          obtain ⟨_, _, o2, z2⟩ := I.hr.own k q hk q.2 (.inr rfl)
          exact ⟨Nat.ne_of_gt (Heap.lt_size z1), Nat.ne_of_gt (Heap.lt_size z2)⟩
      · obtain ⟨b1, b2⟩ := I.hr.ext e he
        exact ⟨keep5 _ _ _ b1, b2⟩
    · intro y hy
      rcases Array.mem_push.mp hy with hy | rfl
      · exact I.gens y hy
      · rfl
    · rcases List.mem_append.mp he with he | he
      · rw [List.mem_singleton.mp he]
        exact Array.getElem?_push_size ..
      · have q := I.gx e he
        show (s.gens.push _)[e.1]? = _
        obtain ⟨hlt, hq⟩ := Array.getElem?_eq_some_iff.mp q
        rw [Array.getElem?_push_lt hlt, hq]
  · intro y hy q hq
    have hy1 := Heap.lt_size (I.hr.ext y hy).1
    rcases List.mem_cons.mp hq with rfl | hq
    · rw [hsz]; exact Nat.ne_of_lt (Nat.lt_succ_of_lt hy1)
    · rw [List.mem_singleton.mp hq]; exact Nat.ne_of_lt hy1
  · intro y hy
    exact Nat.ne_of_lt (Array.getElem?_eq_some_iff.mp (I.gx y hy)).1

/-! for over the generator -/
theorem ev_gen {f : Str} {a : Addr} {qual : Str} {p : EscParts} {scope : Scope} {nms : List Str} (Dg : IsGenDef W a qual p scope nms) (ok : X.Ok W (d + 1)) (G : IsName W X f (.ref a)) {arg : PySem.Expr} {ea : EV} {q pos : Pos}
    (N : NoStar X arg [] pos) (ha : SE W X (eval arg X.env) ea) (hns : starEach [arg] X.env = (false, eval arg X.env) :: starEach [] X.env) (I : Inv W X g ρ l hp s) {P : V → List O → Prop} (h : ea l hp P) {Q : Value → Shared → Prop}
    (hQ : ∀ ρ' hp' x, Ext ρ ρ' → P (.str x) hp' → escEnd false x = false → ∀ a' gn xg D s', Made W X x a' gn xg D → Inv W X ⟨xg.ext ++ g.ext, xg.gx ++ g.gx⟩ ρ' l hp' s' → (∀ y ∈ g.ext, ∀ p ∈ xg.ext, y.1 ≠ p.1) → (∀ y ∈ g.gx, y.1 ≠ gn) → Q (.ref a') s')
    (hP : ∀ v h, P v h → ∃ x, v = .str x ∧ escEnd false x = false) : wpAny W.M X.A (eval (.Call (.Name f q) [arg] [] pos) X.env) Q E s := by
  refine wpAny_Call_ofName (ev_name ok G I ?_)
  have go : wpAny W.M X.A (spliced (backTo pos (starEach [arg] X.env))) (fun vs' s₁ => W.K.In s₁.heap ∧ wpAny W.M X.A (call (.ref a) ([] ++ vs')) Q E s₁) E s := by
    refine wpAny_mono (ses_cons ha ses_nil hns g E ρ l hp s (fun vs h' => match vs with | [v] => P v h' | _ => False) I ?_) (fun vs' s₁ h₁ => ?_) fun _ _ x => x
    · exact h
    · obtain ⟨ρ₁, vs, hp₁, x₁, r₁, I₁, h₁⟩ := h₁
      refine ⟨ok.K.keeps I₁.old, ?_⟩
      cases r₁ with
      | nil => exact h₁.elim
      | cons r₁ r₂ =>
        cases r₂ with
        | cons _ _ => exact h₁.elim
        | nil =>
        obtain ⟨x, rfl, hend⟩ := hP _ hp₁ h₁
        exact gen_make Dg ok I₁ r₁ hend fun a' gn xg D s' M I' ap apg => hQ ρ₁ hp₁ x x₁ h₁ hend a' gn xg D s' M I' ap apg
  exact callWith_K (h₀ := X.h₀) ok.K Dg.keep go N.one N.any

noncomputable def forG (t : TW) (b : ST) : List (Nat × List Nat) → ST
  | [] => fun l h P => P .next l h
  | (i, y) :: r => fun l h P => t (.ref h.length) l (h ++ [.tup [.int i, .str y]]) fun l1 h1 => b l1 h1 fun o l2 h2 => match o with
    | .next => forG t b r l2 h2 P
    | .cont => forG t b r l2 h2 P
    | _ => False
noncomputable def sForG (e : EV) (t : TW) (b : ST) : ST := fun l h P => e l h fun v h1 => match v with
  | .str x => escEnd false x = false ∧ forG t b (escGo 0 false x) l h1 P
  | _ => False

theorem go_gen {tgt : PySem.Expr} {it : Addr} {v' : Value} {Q : Unit → Shared → Prop} {gn : Nat} (hg : s.heap.IsGen it gn) (h : Q () s) : wpAny W.M X.A (letOwnedTupleGo tgt (.ref it) v') Q E s := by
  obtain ⟨o, nm, qn, ho, hc, hd, _⟩ := hg
  cases tgt with
  | Tuple => cases v' with
    | ref a =>
      refine wpAny_bind (wpAny_load ho ?_)
      rw [hc, hd]
      exact go_if (by decide) h
    | _ => exact wpAny_pure h
  | List => cases v' with
    | ref a =>
      refine wpAny_bind (wpAny_load ho ?_)
      rw [hc, hd]
      exact go_if (by decide) h
    | _ => exact wpAny_pure h
  | _ => exact wpAny_pure h

theorem ss_forG {f : Str} {a : Addr} {qual : Str} {p : EscParts} {scope : Scope} {nms : List Str} (Dg : IsGenDef W a qual p scope nms) (ok : X.Ok W (d + 1)) (G : IsName W X f (.ref a)) {arg : PySem.Expr} {ea : EV} {q pos pos2 : Pos}
    (N : NoStar X arg [] pos) (ha : SE W X (eval arg X.env) ea) {tgt : PySem.Expr} {t : TW} (ht : STgt W X tgt t) {body : List Stmt} {b : ST} (hb : SS W X (execs body X.env) b)
    (hs : ∀ y, foldedSetIterable (.Call (.Name f q) [arg] [] pos) X.env y = pure y) :
    SS W X (exec (.For tgt (.Call (.Name f q) [arg] [] pos) body [] pos2) X.env) (sForG ea t b) := by
  intro g E ρ l hp s P I h
  refine wpAny_For (ev_gen Dg ok G N ha N.one I h (fun ρ' hp' x hx hP hend a' gn xg D s' M I' ap apg => ?_) (fun v h' hv => ?_)) hs
  · obtain ⟨md, mst⟩ := M
    have st0 := mst X.A ok.handled (Nat.le_refl _) (Nat.le_add_right _ _)
    obtain ⟨d1, d2, d3, d4⟩ := md X.A
    obtain ⟨oa, nm, qn, hoa, c1, c2, c3⟩ := st0.isgen
    have hgen : s'.heap.IsGen a' gn := ⟨oa, nm, qn, by rw [← d1]; exact (I'.hr.ext _ (List.mem_append_left _ hoa)).1, c1, by rw [← d2]; exact c2, c3⟩
    refine wpAny_pyIter_gen hgen ?_
    have hit : (D X.A).items = escGo 0 false x := by unfold GenD.items; rw [d3]
    refine codeAny_forLoop_any (fun n s => ∃ ρ₁ l hp xg, Ext ρ ρ₁ ∧ GenSt W X.A (D X.A) ((D X.A).items.length - n) xg ∧ n ≤ (D X.A).items.length ∧ (∀ y ∈ g.ext, ∀ p ∈ xg.ext, y.1 ≠ p.1) ∧ Inv W X ⟨xg.ext ++ g.ext, xg.gx ++ g.gx⟩ ρ₁ l hp s ∧ forG t b ((D X.A).items.drop ((D X.A).items.length - n)) l hp P) ?_
      (D X.A).items.length ⟨ρ', l, hp', xg, hx, by rw [Nat.sub_self]; exact st0, Nat.le_refl _, ap, I', by rw [Nat.sub_self, List.drop_zero, hit]; exact hP.2⟩
    rintro n s ⟨ρ₁, l, hp, xg, hx₁, st, hn, ap, I, h⟩
    have hroom : X.A.depth < recursionLimit := by have := ok.depth; omega
    have apg' : ∀ y ∈ g.gx, y.1 ≠ (D X.A).gn := fun y hy => by rw [d2]; exact apg y hy
    cases n with
    | zero =>
      rw [← d1]
      refine gen_stop ok ok.handled hroom d4 I st ap apg' rfl fun s₁ I₁ => ?_
      rw [Nat.sub_zero, List.drop_length] at h
      exact wpAny_execs_nil ⟨ρ₁, .next, l, hp, hx₁, rfl, I₁, h⟩
    | succ n =>
      have hlt : (D X.A).items.length - (n + 1) < (D X.A).items.length := by omega
      obtain ⟨⟨i, y⟩, hiy⟩ : ∃ q : Nat × List Nat, (D X.A).items[(D X.A).items.length - (n + 1)] = q := ⟨_, rfl⟩
      have hget : (D X.A).items[(D X.A).items.length - (n + 1)]? = some (i, y) := by rw [List.getElem?_eq_getElem hlt, hiy]
      have hdrop : (D X.A).items.drop ((D X.A).items.length - (n + 1)) = (i, y) :: (D X.A).items.drop ((D X.A).items.length - n) := by
        rw [List.drop_eq_getElem_cons hlt, hiy]
        congr 2
        omega
      rw [hdrop] at h
      rw [← d1]
      refine gen_step ok ok.handled hroom d4 I st ap apg' hget fun T xg' s₁ st' ap' I₁ => ?_
      have hj : (D X.A).items.length - (n + 1) + 1 = (D X.A).items.length - n := by omega
      rw [hj] at st'
      obtain ⟨oa', nm', qn', hoa', c1', c2', c3'⟩ := st'.isgen
      refine go_gen (gn := (D X.A).gn) ⟨oa', nm', qn', (I₁.hr.ext _ (List.mem_append_left _ hoa')).1, c1', c2', c3'⟩ ?_
      refine wpAny_mono (ht _ _ _ l _ s₁ _ (.ref hp.length) _ I₁ (I.ref_new (T, T)) h) (fun _ s₂ h₂ => ?_) fun _ _ x => x
      obtain ⟨ρ₂, l₂, hp₂, x₂, I₂, h₂⟩ := h₂
      refine wpAny_mono (hb _ _ ρ₂ l₂ hp₂ s₂ _ I₂ h₂) (fun f s₃ h₃ => ?_) fun _ _ x => x
      obtain ⟨ρ₃, oo, l₃, hp₃, x₃, r₃, I₃, h₃⟩ := h₃
      have xx : Ext ρ ρ₃ := hx₁.trans ((Ext.snoc _ _).trans (x₂.trans x₃))
      cases oo with
      | next => cases r₃; exact ⟨n, Nat.lt_succ_self _, ρ₃, l₃, hp₃, xg', xx, st', by omega, ap', I₃, h₃⟩
      | cont => cases r₃; exact ⟨n, Nat.lt_succ_self _, ρ₃, l₃, hp₃, xg', xx, st', by omega, ap', I₃, h₃⟩
      | brk => exact h₃.elim
      | ret u => exact h₃.elim
  · cases v with
    | str x => exact ⟨x, rfl, hv.1⟩
    | none => exact hv.elim
    | bool b => exact hv.elim
    | int i => exact hv.elim
    | ref k => exact hv.elim
end
end Mine
end

noncomputable section -- L1r
open PySem PySem.W PySem.Calls PyProof.Rows
set_option maxRecDepth 100000
set_option autoImplicit false
namespace Mine

noncomputable def tupsOf (items : List (Nat × List Nat)) : List O := items.map fun q => .tup [.int q.1, .str q.2]
noncomputable def refsOf (n j : Nat) : List V := (List.range j).map fun q => .ref (n + q)
theorem refsOf_succ (n j : Nat) : refsOf n (j + 1) = refsOf n j ++ [.ref (n + j)] := by
  unfold refsOf
  rw [List.range_succ, List.map_append]
  rfl

section
variable {W : Wd} {X : Fx} {g : Gx} {ρ : Rho} {l : Loc} {hp : List O} {s s₀ : Shared} {E : Value → Shared → Prop} {d : Nat}

theorem lists_loop {A : Around} {D : GenD} {S : Addr} {res : Value} {R : Result → Shared → Prop} (ok : X.Ok W d) (hh : A.handled = none) (hroom : A.depth < recursionLimit) (hX : D.X.h₀ = X.h₀ ∧ D.X.os = X.os) (apS : ∀ y ∈ g.ext, y.1 ≠ S) (apg : ∀ y ∈ g.gx, y.1 ≠ D.gn)
    (hn : D.items.length ≤ 2 ^ 20) (hR : ∀ ρ' s' acc c, Ext ρ ρ' → VRs ρ' (refsOf hp.length D.items.length) acc → Inv W X ⟨(S, listOf (List.toArray acc) c) :: g.ext, g.gx⟩ ρ' l (hp ++ tupsOf D.items) s' → R (.ok (.ret res)) s') :
    ∀ (k j : Nat) (s : Shared) (ρ' : Rho) (xg : Gx) (acc : List Value) (c : Nat), D.items.length - j = k → j ≤ D.items.length → Ext ρ ρ' → VRs ρ' (refsOf hp.length j) acc → GenSt W A.in1 D j xg → (∀ y ∈ g.ext, ∀ p ∈ xg.ext, y.1 ≠ p.1) → (∀ p ∈ xg.ext, S ≠ p.1) →
      Inv W X ⟨xg.ext ++ (S, listOf (List.toArray acc) c) :: g.ext, xg.gx ++ g.gx⟩ ρ' l (hp ++ tupsOf (D.items.take j)) s → codeAny W.M A (.builtin "list.extend.loop" ⟨[.ref S, .ref D.a, res], []⟩) R s := by
  intro k
  induction k with
  | zero =>
    intro j s ρ' xg acc c hk hj hx hacc st ap apx I
    have hje : j = D.items.length := by lia
    refine codeAny_builtin PySem.F.entry_extend_loop ?_
    rw [Around.under_plainId PySem.F.plain_extend_loop _]
    show wpAny _ A.in1 (pyNext (.ref D.a) >>= _) _ _ s
    refine wpAny_bind (gen_stop (g := ⟨(S, listOf (List.toArray acc) c) :: g.ext, g.gx⟩) (A' := A.in1) ok hh hroom hX I st (fun y hy p hp => ?_) apg hje fun s₁ I₁ => wpAny_pure ?_)
    · rcases List.mem_cons.mp hy with rfl | hy
      · exact apx p hp
      · exact ap y hy p hp
    · subst hje
      rw [List.take_length] at I₁
      exact hR ρ' s₁ acc c hx hacc I₁
  | succ k ih =>
    intro j s ρ' xg acc c hk hj hx hacc st ap apx I
    have hlt : j < D.items.length := by lia
    obtain ⟨⟨i, y⟩, hiy⟩ : ∃ q : Nat × List Nat, D.items[j] = q := ⟨_, rfl⟩
    have hget : D.items[j]? = some (i, y) := by rw [List.getElem?_eq_getElem hlt, hiy]
    refine codeAny_builtin PySem.F.entry_extend_loop ?_
    rw [Around.under_plainId PySem.F.plain_extend_loop _]
    show wpAny _ A.in1 (pyNext (.ref D.a) >>= _) _ _ s
    refine wpAny_bind (gen_step (g := ⟨(S, listOf (List.toArray acc) c) :: g.ext, g.gx⟩) (A' := A.in1) ok hh hroom hX I st (fun y hy p hp => ?_) apg hget fun T xg' s₁ st' ap' I₁ => ?_)
    · rcases List.mem_cons.mp hy with rfl | hy
      · exact apx p hp
      · exact ap y hy p hp
    · obtain ⟨S1, S2, S3, S4⟩ := I₁.hr.ext (S, listOf (List.toArray acc) c) (by simp)
      have hlen := hacc.length
      have hal : acc.length = j := by rw [← hlen]; unfold refsOf; simp
      show wpAny _ A.in1 (updateSeq S (·.push (.ref T)) >>= _) _ _ _
      refine wpAny_bind ?_
      refine wpAny_updateSeq S1 rfl (wpAny_pure ⟨plainId_quiet PySem.F.plain_extend_loop _, ?_⟩) (by rw [List.size_toArray]; exact sizeLine_ge (by lia)) (by show (acc.toArray.push (Value.ref T)).size ≤ sizeLine + 1; rw [Array.size_push, List.size_toArray]; exact Nat.succ_le_succ (sizeLine_ge (by lia)))
      have q := PySem.IsL.update (h := s₁.heap) S1 (·.push (Value.ref T))
      have eacc : acc.toArray.push (Value.ref T) = (acc ++ [Value.ref T]).toArray := by simp
      rw [eacc] at q
      obtain ⟨c2, q⟩ : ∃ c2, (s₁.heap.update S (Obj.mapSeq (·.push (Value.ref T)))).get? S = some (listOf (List.toArray (acc ++ [Value.ref T])) c2) := ⟨_, q⟩
      have oth : ∀ b o, b ≠ S → s₁.heap.get? b = some o → (s₁.heap.update S (Obj.mapSeq (·.push (Value.ref T)))).get? b = some o := fun b o hb e => (Heap.get?_update_other _ _ (Ne.symm hb)).trans e
      have apx' : ∀ p ∈ xg'.ext, S ≠ p.1 := fun p hp => ap' _ (.head _) p hp
      have hrefs : VRs (ρ' ++ [(T, T)]) (refsOf hp.length (j + 1)) (acc ++ [Value.ref T]) := by
        rw [refsOf_succ]
        refine (hacc.ext (Ext.snoc _ _)).append (.one ?_)
        have := I.ref_new (T, T)
        rw [List.length_append] at this
        have hl : (tupsOf (List.take j D.items)).length = j := by unfold tupsOf; rw [List.length_map, List.length_take]; lia
        rw [hl] at this
        exact this
      have hhp : hp ++ tupsOf (List.take j D.items) ++ [O.tup [.int i, .str y]] = hp ++ tupsOf (List.take (j + 1) D.items) := by
        unfold tupsOf
        rw [List.take_succ, hget, List.map_append, List.append_assoc]
        rfl
      rw [hhp] at I₁
      refine ih (j + 1) _ (ρ' ++ [(T, T)]) xg' (acc ++ [Value.ref T]) c2 (by lia) hlt (hx.trans (Ext.snoc _ _)) hrefs st' (fun y hy => ap' y (List.mem_cons_of_mem _ hy)) apx' ?_
      refine I₁.shift (own := [S]) (fun b o hb e => oth b o (by simpa using hb) e) (by simpa using fun q => S2 q.symm) (fun b hb => by rw [List.mem_singleton.mp hb]; exact S3) (fun k p hk => ?_) (fun e he => ?_) I₁.os I₁.gens I₁.gx
      · obtain ⟨b1, b2⟩ := S4 k p hk
        simp only [List.mem_cons, List.not_mem_nil, or_false]
        exact ⟨fun q => b1 q.symm, fun q => b2 q.symm⟩
      · rcases List.mem_append.mp he with he | he
        · obtain ⟨a1, a2⟩ := I₁.hr.ext e (List.mem_append_left _ he)
          exact ⟨oth _ _ (Ne.symm (apx' e he)) a1, a2⟩
        · rcases List.mem_cons.mp he with rfl | he
          · exact ⟨q, S2, S3, S4⟩
          · obtain ⟨a1, a2⟩ := I₁.hr.ext e (by simp [he])
            exact ⟨oth _ _ (apS e he) a1, a2⟩

/-- list(of the generator) -/
theorem lists_all {a : Addr} {gn : Nat} {xg : Gx} {D : Around → GenD} {x : List Nat} (ok : X.Ok W (d + 1)) (M : Made W X x a gn xg D) (I : Inv W X ⟨xg.ext ++ g.ext, xg.gx ++ g.gx⟩ ρ l hp s) (ap : ∀ y ∈ g.ext, ∀ p ∈ xg.ext, y.1 ≠ p.1) (apg : ∀ y ∈ g.gx, y.1 ≠ gn)
    (hn : (escGo 0 false x).length ≤ 2 ^ 20) {P : V → List O → Prop} (hP : P (.ref (hp.length + (escGo 0 false x).length)) (hp ++ tupsOf (escGo 0 false x) ++ [.list (refsOf hp.length (escGo 0 false x).length)])) :
    wpAny W.M X.A (call (.type "list") [.ref a]) (PostE W X g ρ l P) E s := by
  obtain ⟨md, mst⟩ := M
  have st0 := mst X.A.in1.in1 ok.handled (Nat.le_refl _) (Nat.le_add_right _ 2)
  obtain ⟨d1, d2, d3, d4⟩ := md X.A.in1.in1
  have hit : (D X.A.in1.in1).items = escGo 0 false x := by unfold GenD.items; rw [d3]
  have hroom : X.A.depth < recursionLimit := by have := ok.depth; lia
  have S0 : s.heap.get? s.heap.objs.size = none := get_size_none _
  have I₁ := I.addExt (o := { cls := .type "list", data := .seq #[] }) rfl s.toks
  have hS : (s.heap.push { cls := .type "list", data := .seq #[] }).get? s.heap.objs.size = some { cls := .type "list", data := .seq #[] } := Heap.get?_push_size _ rfl
  have apx : ∀ p ∈ xg.ext, s.heap.objs.size ≠ p.1 := fun p hp => Nat.ne_of_gt (Heap.lt_size (I.hr.ext p (List.mem_append_left _ hp)).1)
  have apS : ∀ y ∈ g.ext, y.1 ≠ s.heap.objs.size := fun y hy => Nat.ne_of_lt (Heap.lt_size (I.hr.ext y (List.mem_append_right _ hy)).1)
  obtain ⟨_, SL, S3, S4⟩ := I₁.hr.ext (s.heap.objs.size, _) (.head _)
  obtain ⟨oa, nm, qn, hoa, c1, c2, c3⟩ := st0.isgen
  rw [d1] at hoa
  rw [d2] at c2
  have hgen : ∀ h' : Heap, (∀ b o, b ≠ s.heap.objs.size → (s.heap.push { cls := .type "list", data := .seq #[] }).get? b = some o → h'.get? b = some o) → h'.IsGen a gn := fun h' hk =>
    ⟨oa, nm, qn, hk _ _ (Ne.symm (apx _ hoa)) (Heap.get?_push_of_some _ (I.hr.ext _ (List.mem_append_left _ hoa)).1), c1, c2, c3⟩
  refine callType_codes (Q₁ := fun obj s₁ => obj = .ref s.heap.objs.size ∧ s₁ = { s with heap := s.heap.push { cls := .type "list", data := .seq #[] } }) PySem.F.called_list (PySem.F.typeCall_list_1 _) PySem.F.entry_list_init
    (code_list_new _ ⟨rfl, rfl⟩) fun obj s₁ h₁ => ?_
  obtain ⟨rfl, rfl⟩ := h₁
  refine ⟨⟨_, hS, rfl⟩, PySem.F.args_list_init_2 _ _, ?_⟩
  show wpAny _ X.A.in1.in1 (do let old ← Builtin.List.listItems (.ref s.heap.objs.size); Builtin.List.listUpdate (.ref s.heap.objs.size) (fun _ => #[]); letGo old.toList.reverse; Builtin.List.listExtendWith (.ref s.heap.objs.size) (.ref a) .none) _ _ _
  refine wpAny_bind ?_
  unfold Builtin.List.listItems
  refine wpAny_bind (wpAny_seqItems hS rfl (wpAny_pure ?_))
  show wpAny _ X.A.in1.in1 (updateSeq s.heap.objs.size (fun _ => #[]) >>= fun _ => letGo (#[] : Array Value).toList.reverse >>= fun _ => Builtin.List.listExtendWith (.ref s.heap.objs.size) (.ref a) .none) _ _ _
  refine wpAny_bind (wpAny_updateSeq hS rfl ?_)
  have hS₂ := Heap.get?_update_self (Obj.mapSeq (fun _ => (#[] : Array Value))) hS rfl
  refine wpAny_bind (wpAny_letGo ?_)
  have oth2 : ∀ b o, b ≠ s.heap.objs.size → (s.heap.push { cls := .type "list", data := .seq #[] }).get? b = some o → ((s.heap.push { cls := .type "list", data := .seq #[] }).update s.heap.objs.size (Obj.mapSeq fun _ => (#[] : Array Value))).get? b = some o :=
    fun b o hb e => (Heap.get?_update_other _ _ (Ne.symm hb)).trans e
  have hT2 : ({ s with heap := (s.heap.push { cls := .type "list", data := .seq #[] }).update s.heap.objs.size (Obj.mapSeq fun _ => (#[] : Array Value)) } : Shared).TypeIs (.ref a) "generator" := (hgen _ oth2).typeIs
  unfold Builtin.List.listExtendWith
  refine wpAny_bind (wpAny_typeOf hT2 ?_)
  have h1 : Builtin.List.listSameRef (.ref s.heap.objs.size) (.ref a) = false := by simp [Builtin.List.listSameRef, apx _ hoa]
  have h2 : (Value.type "generator" == Value.type "list") = false := by decide
  have h3 : (Value.type "generator" == Value.type "tuple") = false := by decide
  simp only [h1, h2, h3, Bool.or_false, Bool.false_eq_true, if_false]
  refine wpAny_bind (wpAny_pyIter_gen (hgen _ oth2) ?_)
  refine wpAny_bind (wpAny_holding ?_)
  unfold Builtin.List.listLengthHint
  refine wpAny_bind (wpAny_specialOf hT2 PySem.F.gen_no_len ?_)
  show wpAny _ X.A.in1.in1 (specialOf (Value.ref a) (Str.ofString "__length_hint__") >>= _) _ _ _
  refine wpAny_bind (wpAny_specialOf hT2 PySem.F.gen_no_hint ?_)
  refine wpAny_pure ?_
  show wpAny _ X.A.in1.in1 (rule "list.extend.makes-room" >>= fun _ => Builtin.List.listTouch (.ref s.heap.objs.size) >>= fun _ =>
    again (.builtin "list.extend.loop" ⟨[.ref s.heap.objs.size, .ref a, .none], []⟩)) _ _ _
  refine wpAny_bind (wpAny_rule ?_)
  refine wpAny_bind ?_
  show wpAny _ X.A.in1.in1 (updateSeq s.heap.objs.size (·.push .none) >>= fun _ => updateSeq s.heap.objs.size (·.pop)) _ _ _
  refine wpAny_bind (wpAny_updateSeq hS₂ rfl ?_)
  have hS₃ := Heap.get?_update_self (Obj.mapSeq (·.push Value.none)) hS₂ rfl
  refine wpAny_updateSeq (hz := by seq_fits) hS₃ rfl ?_
  have hS₄ := Heap.get?_update_self (Obj.mapSeq (·.pop)) hS₃ rfl
  have oth : ∀ b o, b ≠ s.heap.objs.size → (s.heap.push { cls := .type "list", data := .seq #[] }).get? b = some o →
      ((((s.heap.push { cls := .type "list", data := .seq #[] }).update s.heap.objs.size (Obj.mapSeq fun _ => (#[] : Array Value))).update s.heap.objs.size (Obj.mapSeq (·.push Value.none))).update s.heap.objs.size (Obj.mapSeq (·.pop))).get? b = some o :=
    fun b o hb e => (Heap.get?_update_other _ _ (Ne.symm hb)).trans ((Heap.get?_update_other _ _ (Ne.symm hb)).trans (oth2 b o hb e))
  refine wpAny_pure ⟨plainId_quiet PySem.F.plain_extend_loop _, ?_⟩
  generalize hh4 : (((s.heap.push { cls := .type "list", data := .seq #[] }).update s.heap.objs.size (Obj.mapSeq fun _ => (#[] : Array Value))).update s.heap.objs.size (Obj.mapSeq (·.push Value.none))).update s.heap.objs.size (Obj.mapSeq (·.pop)) = h4 at hS₄ oth
  have hS5 : ∃ c, h4.get? s.heap.objs.size = some (listOf (List.toArray ([] : List Value)) c) := ⟨_, hS₄⟩
  obtain ⟨c, hS5⟩ := hS5
  have I₂ : Inv W X ⟨xg.ext ++ (s.heap.objs.size, listOf (List.toArray ([] : List Value)) c) :: g.ext, xg.gx ++ g.gx⟩ ρ l hp { s with heap := h4 } := by
    refine I₁.shift (own := [s.heap.objs.size]) (fun b o hb e => oth b o (by simpa using hb) e) (by simpa using fun q => SL q.symm) (fun b hb => by rw [List.mem_singleton.mp hb]; exact S3) (fun k p hk => ?_) (fun e he => ?_) I₁.os I₁.gens I₁.gx
    · obtain ⟨b1, b2⟩ := S4 k p hk
      simp only [List.mem_cons, List.not_mem_nil, or_false]
      exact ⟨fun q => b1 q.symm, fun q => b2 q.symm⟩
    · rcases List.mem_append.mp he with he | he
      · obtain ⟨a1, a2⟩ := I₁.hr.ext e (by simp [he])
        exact ⟨oth _ _ (Ne.symm (apx e he)) a1, a2⟩
      · rcases List.mem_cons.mp he with rfl | he
        · exact ⟨hS5, SL, S3, S4⟩
        · obtain ⟨a1, a2⟩ := I₁.hr.ext e (by simp [he])
          exact ⟨oth _ _ (apS e he) a1, a2⟩
  have main := lists_loop (A := X.A.in1) (D := D X.A.in1.in1) (S := s.heap.objs.size) (res := .none) (g := g) (ρ := ρ) (l := l) (hp := hp) (R := wants (fun r s₂ => r = .none ∧ PostE W X g ρ l P (.ref s.heap.objs.size) s₂) E) ok ok.handled hroom d4 apS (fun y hy => by rw [d2]; exact apg y hy) (by rw [hit]; exact hn)
    (fun ρ' s' acc c' hx hacc I' => ?_) (D X.A.in1.in1).items.length 0 { s with heap := h4 } ρ xg [] c (Nat.sub_zero _) (Nat.zero_le _) (Ext.refl _) .nil st0 ap apx (by rw [List.take_zero]; simpa [tupsOf] using I₂)
  · rw [d1] at main
    exact main
  · refine ⟨rfl, ?_⟩
    rw [hit] at hacc I'
    obtain ⟨T1, T2, T3, T4⟩ := I'.hr.ext (s.heap.objs.size, listOf (List.toArray acc) c') (.head _)
    have I₃ : Inv W X g ρ' l (hp ++ tupsOf (escGo 0 false x)) s' := I'.dropExt
    have hl : (hp ++ tupsOf (escGo 0 false x)).length = hp.length + (escGo 0 false x).length := by simp [tupsOf]
    refine ⟨ρ' ++ [(s.heap.objs.size, s.heap.objs.size)], .ref (hp.length + (escGo 0 false x).length), _, hx.trans (Ext.snoc _ _), ?_, I₃.adopt (c := s.heap.objs.size) (o := .list (refsOf hp.length (escGo 0 false x).length)) T1 T2 T3 (fun e he => ?_) ⟨acc, c', T1, hacc.ext (Ext.snoc _ _)⟩, hP⟩
    · have := I₃.ref_new (s.heap.objs.size, s.heap.objs.size)
      rw [hl] at this
      exact this
    · rcases List.mem_append.mp he with he | he
      · obtain ⟨b, hb, hm⟩ := List.mem_filterMap.mp he
        obtain ⟨p, hp1, hb⟩ := List.mem_flatMap.mp hb
        obtain ⟨k, hk⟩ := List.mem_iff_getElem?.mp hp1
        have hy1 : e.1 = b := by
          cases q : s'.heap.get? b with
          | none => rw [q] at hm; cases hm
          | some o' => rw [q] at hm; cases hm; rfl
        rw [hy1]
        obtain ⟨n1, n2⟩ := T4 k p hk
        rcases List.mem_cons.mp hb with h | h
        · rw [h]; exact Ne.symm n1
        · rw [List.mem_singleton.mp h]; exact Ne.symm n2
      · exact apS e he

/-- list(f(arg)), f the generator's def -/
noncomputable def eLists (e : EV) : EV := fun l h P => e l h fun v h1 => match v with
  | .str x => (escEnd false x = false ∧ (escGo 0 false x).length ≤ 2 ^ 20) ∧ P (.ref (h1.length + (escGo 0 false x).length)) (h1 ++ tupsOf (escGo 0 false x) ++ [.list (refsOf h1.length (escGo 0 false x).length)])
  | _ => False
theorem se_lists {f lst : Str} {a : Addr} {qual : Str} {p : EscParts} {scope : Scope} {nms : List Str} (Dg : IsGenDef W a qual p scope nms) (ok : X.Ok W (d + 1)) (G : IsName W X f (.ref a)) (GL : IsName W X lst (.type "list")) {arg : PySem.Expr} {ea : EV} {q q2 pos pos2 : Pos}
    (N : NoStar X arg [] pos) (ha : SE W X (eval arg X.env) ea) (N2 : NoStar X (.Call (.Name f q) [arg] [] pos) [] pos2) : SE W X (eval (.Call (.Name lst q2) [.Call (.Name f q) [arg] [] pos] [] pos2) X.env) (eLists ea) := by
  intro g E ρ l hp s P I h
  refine wpAny_Call_ofName (ev_name ok GL I ?_)
  have hN := N2.one
  have hb : backTo pos2 (starEach [.Call (.Name f q) [arg] [] pos] X.env) = (false, eval (.Call (.Name f q) [arg] [] pos) X.env) :: backTo pos2 (starEach [] X.env) := by rw [hN]; rfl
  have hp1 : (backTo pos2 (starEach [.Call (.Name f q) [arg] [] pos] X.env)).any (·.1) = false := by
    rw [hb]; show (false || (backTo pos2 (starEach [] X.env)).any (·.1)) = false; rw [N2.any]; rfl
  refine PyProof.Rows.callWith_type hp1 ?_
  rw [hb]
  refine evalArgs_plain ?_
  refine Calls.spliced_cons ?_
  refine ev_gen Dg ok G N ha N.one I h (fun ρ' hp' x hx hP hend a' gn xg D s' M I' ap apg => ?_) (fun v h' hv => ?_)
  · refine Calls.spliced_nil ?_
    exact wpAny_mono (lists_all ok M I' ap apg hP.1.2 hP.2) (fun _ _ h => PostE.later hx h) fun _ _ x => x
  · cases v with
    | str x => exact ⟨x, rfl, hv.1.1⟩
    | none => exact hv.elim
    | bool b => exact hv.elim
    | int i => exact hv.elim
    | ref k => exact hv.elim
end
end Mine
end

noncomputable section -- L2a
open PySem PySem.W PySem.Calls PyProof.Rows
set_option maxRecDepth 100000
set_option autoImplicit false
namespace Mine

/-- the text's own part of the heap -/
structure Is (W : Wd) : Prop where
  K : W.K = hd.heap_1 W.w.params
  C : W.C = 113

section
variable {W : Wd} (h : Is W) {X : Fx}
include h
theorem g_K {x : Str} {v : Value} (P : ∀ p, nsIn (hd.heap_1 p) mainGlobals x = some (some v)) (hx : X.cs.names.lookup x = some .globalImplicit) (hd : (x == ("__debug__" : Str)) = false) : IsName W X x v := .inl ⟨by rw [h.K]; exact P _, hx, hd⟩
theorem g_B {x : Str} {v : Value} (P : ∀ p, nsIn (hd.heap_1 p) mainGlobals x = some none) (hb : bootBuiltins x = some v) (hn : x ≠ "__name__") (hx : X.cs.names.lookup x = some .globalImplicit) (hd : (x == ("__debug__" : Str)) = false) : IsName W X x v := .inr ⟨by rw [h.K]; exact P _, hb, hn, hx, hd⟩
end
theorem k_bisect (p : Params) : nsIn (hd.heap_1 p) mainGlobals "bisect_right" = some (some (.ref 30)) := by kernel_rfl
theorem k_esc (p : Params) : nsIn (hd.heap_1 p) mainGlobals "_iter_escaped_chars" = some (some (.ref 37)) := by kernel_rfl
theorem k_strip (p : Params) : nsIn (hd.heap_1 p) mainGlobals "_strip_quoted_realnames" = some (some (.ref 44)) := by kernel_rfl
theorem k_check (p : Params) : nsIn (hd.heap_1 p) mainGlobals "_check_parenthesis" = some (some (.ref 51)) := by kernel_rfl
theorem k_ws (p : Params) : nsIn (hd.heap_1 p) mainGlobals "Whitespace" = some (some (.ref 113)) := by kernel_rfl
theorem k_end (p : Params) : nsIn (hd.heap_1 p) mainGlobals "ENDMARKER" = some (some (.int 0 348)) := by kernel_rfl
theorem k_nt (p : Params) : nsIn (hd.heap_1 p) mainGlobals "NT_OFFSET" = some (some (.int 256 446)) := by kernel_rfl
theorem k_tab (p : Params) : nsIn (hd.heap_1 p) mainGlobals "EXACT_TOKEN_TYPES" = some (some (.ref 118)) := by kernel_rfl
theorem k_term (p : Params) : nsIn (hd.heap_1 p) mainGlobals "ISTERMINAL" = some (some (.ref 127)) := by kernel_rfl
theorem k_nonterm (p : Params) : nsIn (hd.heap_1 p) mainGlobals "ISNONTERMINAL" = some (some (.ref 134)) := by kernel_rfl
theorem k_eof (p : Params) : nsIn (hd.heap_1 p) mainGlobals "ISEOF" = some (some (.ref 141)) := by kernel_rfl
theorem k_write (p : Params) : nsIn (hd.heap_1 p) mainGlobals "_law_write" = some (some (.ref 148)) := by kernel_rfl
theorem k_draw (p : Params) : nsIn (hd.heap_1 p) mainGlobals "_law_draw" = some (some (.ref 153)) := by kernel_rfl
theorem k_lay (p : Params) : nsIn (hd.heap_1 p) mainGlobals "_law_lay" = some (some (.ref 160)) := by kernel_rfl
theorem k_read (p : Params) : nsIn (hd.heap_1 p) mainGlobals "_law_read" = some (some (.ref 167)) := by kernel_rfl
theorem n_len (p : Params) : nsIn (hd.heap_1 p) mainGlobals "len" = some none := by kernel_rfl
theorem n_max (p : Params) : nsIn (hd.heap_1 p) mainGlobals "max" = some none := by kernel_rfl
theorem n_range (p : Params) : nsIn (hd.heap_1 p) mainGlobals "range" = some none := by kernel_rfl
theorem n_tuple (p : Params) : nsIn (hd.heap_1 p) mainGlobals "tuple" = some none := by kernel_rfl
theorem n_enum (p : Params) : nsIn (hd.heap_1 p) mainGlobals "enumerate" = some none := by kernel_rfl
theorem n_list (p : Params) : nsIn (hd.heap_1 p) mainGlobals "list" = some none := by kernel_rfl
theorem b_len : bootBuiltins "len" = some (.builtin "len") := by decide +kernel
theorem b_max : bootBuiltins "max" = some (.builtin "max") := by decide +kernel
theorem b_range : bootBuiltins "range" = some (.type "range") := by decide +kernel
theorem b_tuple : bootBuiltins "tuple" = some (.type "tuple") := by decide +kernel
theorem b_enum : bootBuiltins "enumerate" = some (.type "enumerate") := by decide +kernel
theorem b_list : bootBuiltins "list" = some (.type "list") := by decide +kernel

noncomputable def funOf (K : Frag) (a : Addr) : Option FuncData := match K.lookup a with | some ⟨_, _, .func fd, _⟩ => some fd | _ => none
noncomputable def bodyOf (p : Params) (a : Addr) : List Stmt := match funOf (hd.heap_1 p) a with | some fd => (match fd.body with | .stmts b => b | _ => []) | none => []
noncomputable def scopeOf (p : Params) (a : Addr) : Scope := match funOf (hd.heap_1 p) a with | some fd => fd.scope | none => default
theorem funOf_some {K : Frag} {a : Addr} {fd : FuncData} (e : funOf K a = some fd) : ∃ oc od osl, K.lookup a = some ⟨oc, od, .func fd, osl⟩ := by
  unfold funOf at e
  split at e
  · rename_i q; cases e; exact ⟨_, _, _, q⟩
  · cases e

theorem lr_binds {ρ : Rho} : ∀ {ps : List Str} {vs : List V} {vs' : List Value}, VRs ρ vs vs' → ps.Nodup → ps.length = vs.length → ∀ (i : Nat) (x : Str) (v : V), ps[i]? = some x → vs[i]? = some v → ∃ v', (ps.zip vs').reverse.lookup x = some v' ∧ VR ρ v v'
  | [], _, _, _, _, _, i, x, v, h, _ => by simp at h
  | p :: ps, _, _, .cons (v := u) (v' := u') (vs := vs) (vs' := vs') a r, hn, hl, i, x, v, hx, hv => by
    obtain ⟨n1, n2⟩ := List.nodup_cons.mp hn
    have split : ∀ (l : List (Str × Value)) (y : Str), (l ++ [(p, u')]).lookup y = (l.lookup y).or (if y == p then some u' else none) := fun l y => by
      induction l with
      | nil => simp [List.lookup]; split <;> simp_all
      | cons q l ih => simp only [List.cons_append, List.lookup]; split <;> simp_all
    have hz : ((p :: ps).zip (u' :: vs')).reverse = (ps.zip vs').reverse ++ [(p, u')] := by simp
    rw [hz]
    cases i with
    | zero =>
      simp only [List.getElem?_cons_zero, Option.some.injEq] at hx hv
      subst hx hv
      refine ⟨u', ?_, a⟩
      rw [split]
      have : (ps.zip vs').reverse.lookup p = none := by
        rw [List.lookup_eq_none_iff]
        intro q hq
        have := (List.of_mem_zip (List.mem_reverse.mp hq)).1
        simp only [beq_eq_false_iff_ne, ne_eq, bne_iff_ne]
        rintro rfl
        exact n1 this
      rw [this]; simp
    | succ i =>
      simp only [List.getElem?_cons_succ] at hx hv
      obtain ⟨v', h1, h2⟩ := lr_binds r n2 (by simpa using hl) i x v hx hv
      exact ⟨v', by rw [split, h1]; rfl, h2⟩

/-- the locals at a call: the arguments, the defaults, then names not yet bound -/
noncomputable def inits (n : Nat) (dv : List V) (k : Nat) : List V → Option Loc := fun vs => if vs.length = n then some ((vs ++ dv).map some ++ List.replicate k none) else none
structure DefFacts (a : Addr) (qual : Str) (ps rest : List Str) (n : Nat) (dl : List Value) : Prop where
  q : ∀ p, (funOf (hd.heap_1 p) a).map (·.qualname) = some qual
  g : ∀ p, (funOf (hd.heap_1 p) a).map (fun fd => fnOf fd.name fd.qualname fd.params (bodyOf p a) (scopeOf p a) fd.defaults fd.kwdefaults fd.doc fd.pyModule fd.annotations fd.code fd.closureTuple) = funOf (hd.heap_1 p) a
  c : ∀ p, (funOf (hd.heap_1 p) a).map (fun fd => codeIn (hd.heap_1 p) fd.code qual) = some true
  b : ∀ p S (vs' : List Value), vs'.length = n → (funOf (hd.heap_1 p) a).map (fun fd => peek (hd.heap_1 p) S (bindArgs fd ⟨vs', []⟩)) = some (some (ps.zip (vs' ++ dl)))
  co : ∀ p, (scopeOf p a).isCoroutine = false
  kind : ∀ p, (scopeOf p a).kind = .function
  cell : ∀ p, (scopeOf p a).names.all (fun x => x.2 != .cell) = true
  names : ∀ p, (ps ++ rest).all (fun x => (scopeOf p a).names.lookup x == some .local && !(x == ("__debug__" : Str))) = true
  nodup : (ps ++ rest).Nodup
theorem fn_of {W : Wd} (h : Is W) {a : Addr} {qual : Str} {ps rest : List Str} {n : Nat} {dl : List Value} {dv : List V} (F : DefFacts a qual ps rest n dl) (hdv : VRs [] dv dl) (hl : ps.length = n + dv.length) :
    ∃ (name : Str) (params : Arguments) (dV kV doc pm cdv ct oc : Value) (an od : Option Addr) (osl : Array (Option Value)), W.K.lookup a = some ⟨oc, od, .func (fnOf name qual params (bodyOf W.w.params a) (scopeOf W.w.params a) dV kV doc pm an cdv ct), osl⟩ ∧ codeIn W.K cdv qual = true ∧
    ∀ (ρ : Rho) (vs : List V) (vs' : List Value) (s : Shared) (l : Loc), VRs ρ vs vs' → W.K.In s.heap → inits n dv rest.length vs = some l →
      ∃ binds, BindsTo s (fnOf name qual params (bodyOf W.w.params a) (scopeOf W.w.params a) dV kV doc pm an cdv ct) ⟨vs', []⟩ binds ∧ (∀ y ∈ binds, (scopeOf W.w.params a).names.lookup y.1 = some .local) ∧ LR (ps ++ rest) ρ l (fun y => binds.reverse.lookup y) := by
  have q := F.q W.w.params
  have g := F.g W.w.params
  have c := F.c W.w.params
  have b := F.b W.w.params
  cases e : funOf (hd.heap_1 W.w.params) a with
  | none => rw [e] at q; cases q
  | some fd =>
    rw [e] at q g c b
    simp only [Option.map_some, Option.some.injEq] at q g c b
    obtain ⟨oc, od, osl, ho⟩ := funOf_some e
    subst q
    refine ⟨fd.name, fd.params, fd.defaults, fd.kwdefaults, fd.doc, fd.pyModule, fd.code, fd.closureTuple, oc, fd.annotations, od, osl, ?_, ?_, ?_⟩
    · rw [h.K, ho]
      have g' : fnOf fd.name fd.qualname fd.params (bodyOf W.w.params a) (scopeOf W.w.params a) fd.defaults fd.kwdefaults fd.doc fd.pyModule fd.annotations fd.code fd.closureTuple = fd := g
      rw [g']
    · rw [h.K]; exact c
    · intro ρ vs vs' s l r hK hi
      have g' : fnOf fd.name fd.qualname fd.params (bodyOf W.w.params a) (scopeOf W.w.params a) fd.defaults fd.kwdefaults fd.doc fd.pyModule fd.annotations fd.code fd.closureTuple = fd := g
      rw [g']
      unfold inits at hi
      split at hi
      · rename_i hlen
        cases hi
        have hlv : vs'.length = n := by rw [← r.length]; exact hlen
        refine ⟨ps.zip (vs' ++ dl), kp_binds (K := hd.heap_1 W.w.params) (by rw [← h.K]; exact hK) (fun S => b S vs' hlv), fun y hy => ?_, ?_⟩
        · have hm := (List.of_mem_zip (show (y.1, y.2) ∈ _ from hy)).1
          have := List.all_eq_true.mp (F.names W.w.params) y.1 (List.mem_append_left _ hm)
          simp only [Bool.and_eq_true, beq_iff_eq] at this
          exact this.1
        · have rr : VRs ρ (vs ++ dv) (vs' ++ dl) := r.append (by
            have : ∀ {x : List V} {y : List Value}, VRs [] x y → VRs ρ x y := fun h => h.ext ⟨ρ, by simp⟩
            exact this hdv)
          have hpl : ps.length = (vs ++ dv).length := by rw [List.length_append, hlen, hl]
          intro i x v hx hv
          have hip : i < ps.length := by
            rcases Nat.lt_or_ge i ps.length with h | h
            · exact h
            · exfalso
              rw [List.getElem?_append_right (by simp only [List.length_map]; lia), List.getElem?_replicate] at hv
              split at hv <;> cases hv
          rw [List.getElem?_append_left hip] at hx
          rw [List.getElem?_append_left (by simp only [List.length_map]; lia), List.getElem?_map] at hv
          cases q : (vs ++ dv)[i]? with
          | none => rw [q] at hv; cases hv
          | some u =>
            rw [q] at hv
            cases hv
            exact lr_binds rr (List.nodup_append.mp F.nodup).1 hpl i x v hx q
      · cases hi
theorem mkDef {W : Wd} (h : Is W) {a : Addr} {qual : Str} {ps rest : List Str} {n : Nat} {dl : List Value} {dv : List V} (F : DefFacts a qual ps rest n dl) (gen : ∀ p, (scopeOf p a).isGenerator = false) (hdv : VRs [] dv dl) (hl : ps.length = n + dv.length) :
    IsDef W a qual (bodyOf W.w.params a) (scopeOf W.w.params a) (ps ++ rest) (inits n dv rest.length) where
  fn := fn_of h F hdv hl
  co := F.co _
  gen := gen _
  kind := F.kind _
  cell := fun x hx => by have := List.all_eq_true.mp (F.cell W.w.params) x hx; simpa using this
  names := fun i x hx => by
    have := List.all_eq_true.mp (F.names W.w.params) x (List.mem_of_getElem? hx)
    simpa using this
  nodup := F.nodup
end Mine
end

noncomputable section -- L2b
open PySem PySem.W PySem.Calls PyProof.Rows
set_option maxRecDepth 100000
set_option autoImplicit false
namespace Mine
noncomputable def sFail : ST := fun _ _ _ => False
theorem ss_fail {W : Wd} {X : Fx} {t : Sem Flow} : SS W X t sFail := fun _ _ _ _ _ _ _ _ h => h.elim
theorem Fx.Ok.mono {W : Wd} {X : Fx} {d d' : Nat} (ok : X.Ok W d) (h : d' ≤ d) : X.Ok W d' where
  B := fun q => ok.B (Nat.lt_of_lt_of_le q h)
  K := ok.K
  T := ok.T
  kind := ok.kind
  depth := by have := ok.depth; lia
  units := by have := ok.units; lia
  handled := ok.handled
  names := ok.names
  nodup := ok.nodup
  low := ok.low

/-! the class -/
section
variable {W : Wd} (h : Is W)
include h
theorem at_of {k : Str} (h1 : ∀ p, plainGet (hd.heap_1 p) 113 k = true) (h2 : ∀ p, hasDictIn (hd.heap_1 p) 113 = true) (h3 : ∀ p, findIn (hd.heap_1 p) (.ref 113) k = some none) (h3' : ∀ p, noGet (hd.heap_1 p) none = true)
    (h4 : ∀ p, findIn (hd.heap_1 p) (.ref 113) "__setattr__" = some (some (.builtin "object.__setattr__"))) (h5 : ∀ p, plainOver (hd.heap_1 p) 113 = true) (h6 : ∀ p, takerIn (hd.heap_1 p) 113 k = some none) : IsAttr W k := by
  refine ⟨?_, ?_, ⟨none, ?_, ?_⟩, ?_, ?_, ?_⟩ <;> rw [h.K] <;> (try rw [h.C])
  · exact h1 _
  · exact h2 _
  · exact h3 _
  · exact h3' _
  · exact h4 _
  · exact h5 _
  · exact h6 _
theorem at_raw : IsAttr W "raw" := at_of h (fun p => by kernel_rfl) (fun p => by kernel_rfl) (fun p => by kernel_rfl) (fun p => by kernel_rfl) (fun p => by kernel_rfl) (fun p => by kernel_rfl) (fun p => by kernel_rfl)
theorem at_n : IsAttr W "n" := at_of h (fun p => by kernel_rfl) (fun p => by kernel_rfl) (fun p => by kernel_rfl) (fun p => by kernel_rfl) (fun p => by kernel_rfl) (fun p => by kernel_rfl) (fun p => by kernel_rfl)
theorem at_nt : IsAttr W "nt" := at_of h (fun p => by kernel_rfl) (fun p => by kernel_rfl) (fun p => by kernel_rfl) (fun p => by kernel_rfl) (fun p => by kernel_rfl) (fun p => by kernel_rfl) (fun p => by kernel_rfl)
theorem at_norm : IsAttr W "norm" := at_of h (fun p => by kernel_rfl) (fun p => by kernel_rfl) (fun p => by kernel_rfl) (fun p => by kernel_rfl) (fun p => by kernel_rfl) (fun p => by kernel_rfl) (fun p => by kernel_rfl)
theorem at_is_simple : IsAttr W "is_simple" := at_of h (fun p => by kernel_rfl) (fun p => by kernel_rfl) (fun p => by kernel_rfl) (fun p => by kernel_rfl) (fun p => by kernel_rfl) (fun p => by kernel_rfl) (fun p => by kernel_rfl)
omit h in
theorem cv_S_1 (p : Params) : findCls (hd.heap_1 p) (.ref 113) (.type "type") "S" = some (.val (.str " " 259)) := by kernel_rfl
omit h in
theorem cv_S_0 (p : Params) : typeIn (hd.heap_1 p) (.ref 113) = some (.type "type") ∧ readsIn (hd.heap_1 p) 113 (.type "type") = true := ⟨by kernel_rfl, by kernel_rfl⟩
theorem cv_S : IsClsVal W "S" " " := ⟨.type "type", .str " " 259, 259, by rw [h.K, h.C]; exact (cv_S_0 _).1, by rw [h.K, h.C]; exact (cv_S_0 _).2, by rw [h.K, h.C]; exact cv_S_1 _, rfl, rfl⟩
omit h in
theorem cv_T_1 (p : Params) : findCls (hd.heap_1 p) (.ref 113) (.type "type") "T" = some (.val (.str "\t" 260)) := by kernel_rfl
omit h in
theorem cv_T_0 (p : Params) : typeIn (hd.heap_1 p) (.ref 113) = some (.type "type") ∧ readsIn (hd.heap_1 p) 113 (.type "type") = true := ⟨by kernel_rfl, by kernel_rfl⟩
theorem cv_T : IsClsVal W "T" "\t" := ⟨.type "type", .str "\t" 260, 260, by rw [h.K, h.C]; exact (cv_T_0 _).1, by rw [h.K, h.C]; exact (cv_T_0 _).2, by rw [h.K, h.C]; exact cv_T_1 _, rfl, rfl⟩
theorem im_Longest : IsMeth W "longest_run_of_spaces" 75 := ⟨by rw [h.K, h.C]; exact (show ∀ p, plainGet (hd.heap_1 p) 113 "longest_run_of_spaces" = true from fun p => by kernel_rfl) _, by rw [h.K, h.C]; exact (show ∀ p, findIn (hd.heap_1 p) (.ref 113) "longest_run_of_spaces" = some (some (.ref 75)) from fun p => by kernel_rfl) _, by rw [h.K]; exact (show ∀ p, isFn (hd.heap_1 p) (.ref 75) = true from fun p => by kernel_rfl) _, by rw [h.K]; exact (show ∀ p, keepIn (hd.heap_1 p) (.ref 75) = true from fun p => by kernel_rfl) _, by decide +kernel⟩
theorem im_Indent : IsMeth W "indent_level" 82 := ⟨by rw [h.K, h.C]; exact (show ∀ p, plainGet (hd.heap_1 p) 113 "indent_level" = true from fun p => by kernel_rfl) _, by rw [h.K, h.C]; exact (show ∀ p, findIn (hd.heap_1 p) (.ref 113) "indent_level" = some (some (.ref 82)) from fun p => by kernel_rfl) _, by rw [h.K]; exact (show ∀ p, isFn (hd.heap_1 p) (.ref 82) = true from fun p => by kernel_rfl) _, by rw [h.K]; exact (show ∀ p, keepIn (hd.heap_1 p) (.ref 82) = true from fun p => by kernel_rfl) _, by decide +kernel⟩
theorem im_Equal : IsMeth W "equal" 89 := ⟨by rw [h.K, h.C]; exact (show ∀ p, plainGet (hd.heap_1 p) 113 "equal" = true from fun p => by kernel_rfl) _, by rw [h.K, h.C]; exact (show ∀ p, findIn (hd.heap_1 p) (.ref 113) "equal" = some (some (.ref 89)) from fun p => by kernel_rfl) _, by rw [h.K]; exact (show ∀ p, isFn (hd.heap_1 p) (.ref 89) = true from fun p => by kernel_rfl) _, by rw [h.K]; exact (show ∀ p, keepIn (hd.heap_1 p) (.ref 89) = true from fun p => by kernel_rfl) _, by decide +kernel⟩
theorem im_Less : IsMeth W "less" 103 := ⟨by rw [h.K, h.C]; exact (show ∀ p, plainGet (hd.heap_1 p) 113 "less" = true from fun p => by kernel_rfl) _, by rw [h.K, h.C]; exact (show ∀ p, findIn (hd.heap_1 p) (.ref 113) "less" = some (some (.ref 103)) from fun p => by kernel_rfl) _, by rw [h.K]; exact (show ∀ p, isFn (hd.heap_1 p) (.ref 103) = true from fun p => by kernel_rfl) _, by rw [h.K]; exact (show ∀ p, keepIn (hd.heap_1 p) (.ref 103) = true from fun p => by kernel_rfl) _, by decide +kernel⟩
theorem cls_ok : IsCls W 68 := ⟨by rw [h.K, h.C]; exact (show ∀ p, makesIn (hd.heap_1 p) 113 = true from fun p => by kernel_rfl) _, by rw [h.K, h.C]; exact (show ∀ p, findIn (hd.heap_1 p) (.ref 113) "__init__" = some (some (.ref 68)) from fun p => by kernel_rfl) _, by rw [h.K]; exact (show ∀ p, isFn (hd.heap_1 p) (.ref 68) = true from fun p => by kernel_rfl) _⟩
theorem keep_cls : keepIn W.K (.ref W.C) = true := by rw [h.K, h.C]; exact (show ∀ p, keepIn (hd.heap_1 p) (.ref 113) = true from fun p => by kernel_rfl) _
end

/-! the table -/
noncomputable def tabL : List (List Nat × Int) := [([33], 54), ([33, 61], 28), ([37], 24), ([37, 61], 40), ([38], 19), ([38, 61], 41), ([40], 7), ([41], 8), ([42], 16), ([42, 42], 35), ([42, 42, 61], 46), ([42, 61], 38), ([43], 14), ([43, 61], 36), ([44], 12), ([45], 15), ([45, 61], 37), ([45, 62], 51), ([46], 23), ([46, 46, 46], 52), ([47], 17), ([47, 47], 47), ([47, 47, 61], 48), ([47, 61], 39), ([58], 11), ([58, 61], 53), ([59], 13), ([60], 20), ([60, 60], 33), ([60, 60, 61], 44), ([60, 61], 29), ([61], 22), ([61, 61], 27), ([62], 21), ([62, 61], 30), ([62, 62], 34), ([62, 62, 61], 45), ([64], 49), ([64, 61], 50), ([91], 9), ([93], 10), ([94], 32), ([94, 61], 43), ([123], 25), ([124], 18), ([124, 61], 42), ([125], 26), ([126], 31)]
noncomputable def tabF (x : List Nat) : Option Int := tabL.lookup x
noncomputable def tabEs (p : Params) : Array DictEntry := match (hd.heap_1 p).lookup 118 with | some ⟨_, _, .dict es _, _⟩ => es | _ => #[]
noncomputable def tabN (p : Params) : Nat := match (hd.heap_1 p).lookup 118 with | some ⟨_, _, .dict _ n, _⟩ => n | _ => 0
noncomputable def decE (e : DictEntry) : Option (List Nat × Int) := match e.key, e.val with | .str x _, .int i _ => some (x.cps.toList, i) | _, _ => none
theorem tab_look (p : Params) : (hd.heap_1 p).lookup 118 = some ⟨.type "dict", none, .dict (tabEs p) (tabN p), #[]⟩ := by kernel_rfl
theorem tab_dec (p : Params) : (tabEs p).toList.map decE = tabL.map some := by kernel_rfl
theorem tab_hash (p : Params) : (tabEs p).toList.map (·.hash) = tabL.map fun q => PyData.keyHash p ⟨q.1.toArray⟩ := by kernel_rfl
theorem tab_keys {p : Params} : ∀ {es : List DictEntry} {l : List (List Nat × Int)}, es.map decE = l.map some → es.map (·.hash) = l.map (fun q => PyData.keyHash p ⟨q.1.toArray⟩) → KeysLit p es
  | [], _, _, _ => trivial
  | e :: r, [], h, _ => by cases h
  | e :: r, (x, i) :: l, h1, h2 => by
    simp only [List.map_cons, List.cons.injEq] at h1 h2
    refine ⟨?_, tab_keys h1.2 h2.2⟩
    obtain ⟨hs, k, v⟩ := e
    have h3 := h1.1
    unfold decE at h3
    split at h3
    · rename_i y t j u e1 e2
      cases h3
      refine ⟨y, t, e1, ?_⟩
      have := h2.1
      simpa using this
    · cases h3
theorem tab_find : ∀ {es : List DictEntry} {l : List (List Nat × Int)}, es.map decE = l.map some → ∀ x : List Nat, match l.lookup x with
    | none => (es.find? fun e => Value.isStrOf ⟨x.toArray⟩ e.key) = none
    | some i => ∃ e t, (es.find? fun e => Value.isStrOf ⟨x.toArray⟩ e.key) = some e ∧ e.val = .int i t
  | [], [], _, x => rfl
  | [], _ :: _, h, _ => by cases h
  | e :: r, [], h, _ => by cases h
  | e :: r, (y, i) :: l, h, x => by
    simp only [List.map_cons, List.cons.injEq] at h
    have ih := tab_find h.2 x
    obtain ⟨hs, k, v⟩ := e
    have h3 := h.1
    unfold decE at h3
    split at h3
    · rename_i z t j u e1 e2
      cases h3
      dsimp only at e1 e2
      subst e1 e2
      have hb : Value.isStrOf ⟨x.toArray⟩ (.str z t) = (x == z.cps.toList) := by
        show (z == ⟨x.toArray⟩) = _
        obtain ⟨a⟩ := z
        rw [Bool.eq_iff_iff]
        simp only [beq_iff_eq, Str.mk.injEq]
        constructor
        · rintro rfl; simp
        · rintro rfl; simp
      rw [List.lookup_cons, List.find?_cons]
      simp only [hb]
      cases hx : (x == z.cps.toList) with
      | true => exact ⟨_, u, rfl, rfl⟩
      | false => exact ih
    · cases h3
theorem tab_ok {W : Wd} (h : Is W) : IsTab W 118 tabF := by
  refine ⟨⟨tabEs W.w.params, tabN W.w.params, by rw [h.K]; exact tab_look _, tab_keys (tab_dec _) (tab_hash _), fun x => ?_⟩, rfl⟩
  have := tab_find (tab_dec W.w.params) x
  unfold tabF
  cases hx : tabL.lookup x with
  | none =>
    rw [hx] at this
    show (Array.find? _ _).map _ = none
    rw [← Array.find?_toList]
    rw [show (List.find? _ _) = _ from this]; rfl
  | some i =>
    rw [hx] at this
    obtain ⟨e, t, h1, h2⟩ := this
    refine ⟨t, ?_⟩
    show (Array.find? _ _).map _ = _
    rw [← Array.find?_toList]
    rw [show (List.find? _ _) = _ from h1]
    show some e.val = _
    rw [h2]
theorem meq {o : PySem.Expr} {name : Str} {apos pos : Pos} {args : List PySem.Expr} {env : Env} (ho : ∀ w, attributeBase o name env w = w) (hf : methodCallForm (args.length + 0) (backTo pos (starEach args env)) [] = true) (hp : methodCallPos true o env apos pos = pure pos) :
    eval (.Call (.Attribute o name apos) args [] pos) env = (do
      let ov ← eval o env
      standAt apos.atName
      let (f, first) ← holding [ov] (getMethod ov name (do return (← importBound o env).getD true))
      callWith pos f first (backTo pos (starEach args env)) []) := by
  rw [arm_eval_Call, ho]
  show (do
    let ov ← eval o env
    standAt apos.atName
    methodCall o name apos pos env ov (args.length + 0) (backTo pos (starEach args env)) []) = _
  unfold methodCall
  rw [hf, hp]
  rfl
theorem aeq {o : PySem.Expr} {k : Str} {pos : Pos} {env : Env} (ho : ∀ w, attributeBase o k env w = w) : eval (.Attribute o k pos) env = (do
      let ov ← eval o env
      standAt pos.atName
      let r ← holding [ov] (getAttr ov k true)
      letTemporaryGo o ov r
      pure r) := by
  show (do
    let ov ← attributeBase o k env (eval o env)
    standAt pos.atName
    let r ← holding [ov] (getAttr ov k true)
    letTemporaryGo o ov r
    pure r) = _
  rw [ho]
end Mine
end

noncomputable section -- L2c
open PySem PySem.W PySem.Calls PyProof.Rows
set_option maxRecDepth 100000
set_option autoImplicit false
namespace Mine

/-! the generator's def -/
noncomputable def nEsc : List Str := ["addr", "pos", "escape", "ch"]
noncomputable def dumE : PySem.Expr := .Constant .none 0 ⟨0, 0, 0, 0⟩
noncomputable def dumS : Stmt := .Pass ⟨0, 0, 0, 0⟩
noncomputable def dumP : EscParts := ⟨dumS, dumS, [], 0, ⟨0, 0, 0, 0⟩, dumE, dumE, dumE, dumS, dumE, dumS, dumE, dumE, dumE, ⟨0, 0, 0, 0⟩, ⟨0, 0, 0, 0⟩, ⟨0, 0, 0, 0⟩, ⟨0, 0, 0, 0⟩, ⟨0, 0, 0, 0⟩, ⟨0, 0, 0, 0⟩, ⟨0, 0, 0, 0⟩, ⟨0, 0, 0, 0⟩, ⟨0, 0, 0, 0⟩, ⟨0, 0, 0, 0⟩⟩
noncomputable def escP (p : Params) : EscParts := match bodyOf p 37 with
  | [s1, s2, .For (.Tuple elts kt pt) iter [.If t1 [.Expr (.Yield (some e1) p1) p2, s3] [.If t2 [s4] [.Expr (.Yield (some e2) p3) p4] p5] p6] _ p10, .If t3 [.Expr (.Yield (some e3) p7) p8] _ p9] =>
    ⟨s1, s2, elts, kt, pt, iter, t1, e1, s3, t2, s4, e2, t3, e3, p1, p2, p3, p4, p5, p6, p7, p8, p9, p10⟩
  | _ => dumP
theorem escP_body (p : Params) : (escP p).body = bodyOf p 37 := by kernel_rfl

section
variable {W : Wd} {X : Fx} {d : Nat}
theorem ssz_int (ok : X.Ok W d) {x : Str} {i : Nat} (hi : X.names[i]? = some x) {n : Int} {k : Nat} {q p pos : Pos} (hs : swapsWith (.Constant (.int n) k q) (some (.Name x p)) pos.line X.env = pure false) : SSz W X (.Assign [.Name x p] (.Constant (.int n) k q) pos) i (.int n) := by
  intro g E ρ l hp s Q I h
  refine wpAny_Assign_Name (wpAny_Constant_int ?_) hs
  obtain ⟨m, F, lr⟩ := I.fr
  refine wpAny_storeName_local (ok.names i x hi).1 F.ns (fun h' hn hs' => h _ hs'.1 ((I.toks _).store ok hi (VR.int n _) lr F hn hs' _)) ?_
  show (X.cs.kind == .class || (X.cs.kind == .module && X.L != mainGlobals)) = false
  rw [ok.kind]; rfl
theorem ssz_bool (ok : X.Ok W d) {x : Str} {i : Nat} (hi : X.names[i]? = some x) {b : Bool} {k : Nat} {q p pos : Pos} (hs : swapsWith (.Constant (.bool b) k q) (some (.Name x p)) pos.line X.env = pure false) : SSz W X (.Assign [.Name x p] (.Constant (.bool b) k q) pos) i (.bool b) := by
  intro g E ρ l hp s Q I h
  refine wpAny_Assign_Name (Constant_bool ?_) hs
  obtain ⟨m, F, lr⟩ := I.fr
  refine wpAny_storeName_local (ok.names i x hi).1 F.ns (fun h' hn hs' => h _ hs'.1 (I.store ok hi (VR.bool b) lr F hn hs' _)) ?_
  show (X.cs.kind == .class || (X.cs.kind == .module && X.L != mainGlobals)) = false
  rw [ok.kind]; rfl
theorem esc_iter (ok : X.Ok W d) (G : IsName W X "enumerate" (.type "enumerate")) {x : Str} (hx : X.names[0]? = some x) {q q2 pos : Pos} (N : NoStar X (.Name x q2) [] pos) {g : Gx} {E : Value → Shared → Prop} {ρ : Rho} {l : Loc} {hp : List O} {s : Shared} {Q : Value → Shared → Prop} {y : List Nat} (I : Inv W X g ρ l hp s) (hl : l[0]? = some (some (.str y)))
    (h : ∀ s' t, s'.heap.objs.size = s.heap.objs.size → Inv W X g ρ l hp s' → wpAny W.M X.A (call (.type "enumerate") [.str ⟨y.toArray⟩ t]) Q E s') : wpAny W.M X.A (eval (.Call (.Name "enumerate" q) [.Name x q2] [] pos) X.env) Q E s := by
  refine wpAny_Call_ofName (ev_name ok G I ?_)
  have hN := N.one
  have hb : backTo pos (starEach [.Name x q2] X.env) = (false, eval (.Name x q2) X.env) :: backTo pos (starEach [] X.env) := by rw [hN]; rfl
  have hp1 : (backTo pos (starEach [.Name x q2] X.env)).any (·.1) = false := by
    rw [hb]; show (false || (backTo pos (starEach [] X.env)).any (·.1)) = false; rw [N.any]; rfl
  refine PyProof.Rows.callWith_type hp1 ?_
  rw [hb]
  refine evalArgs_plain (Calls.spliced_cons ?_)
  obtain ⟨m, F, lr⟩ := I.fr
  obtain ⟨v', hm, t, rfl⟩ := lr 0 x _ hx hl
  refine nameX_L F hm (Calls.spliced_nil (h s t rfl I)) ok.kind (ok.names 0 x hx).1 (ok.names 0 x hx).2
end

theorem esc_ok {W : Wd} (h : Is W) (X : Fx) (ok : X.Ok W 0) (hcs : X.cs = scopeOf W.w.params 37) (hn : X.names = nEsc) : EscOk W X (escP W.w.params) := by
  obtain ⟨A₀, base, outer, h₀, L, cn, cs, a, ccd, names, os, clx⟩ := X
  obtain rfl : cs = _ := hcs
  obtain rfl : names = _ := hn
  refine ⟨?_, ?_, ?_, ?_, ?_, ?_, ?_, ?_, ?_, ?_, ?_, ?_, ?_, ?_, ?_, ?_⟩
  · exact ssz_int ok (i := 1) rfl rfl
  · exact ssz_bool ok (i := 2) rfl rfl
  · intro g E ρ l hp s Q x I hl hQ
    exact esc_iter ok (g_B h n_enum b_enum (by decide) (by kernel_rfl) (by rfl)) rfl ⟨rfl, rfl⟩ I hl hQ
  · exact tg_pair ok (i := 1) (j := 3) rfl rfl
  · exact sb_val (se_nm ok _ 2 rfl) (fun _ => rfl)
  · exact se_tup (ses_cons (se_nm ok _ 1 rfl) (ses_cons (se_bin (se_str (by kernel_rfl) _ _) (se_nm ok _ 3 rfl)) ses_nil rfl) rfl)
  · exact ss_asg ok (i := 2) rfl (se_bool _ _ _) rfl
  · exact sb_cmp ok (se_nm ok _ 3 rfl) (se_str (by kernel_rfl) _ _) rfl
  · exact ss_asg ok (i := 2) rfl (se_bool _ _ _) rfl
  · exact se_tup (ses_cons (se_nm ok _ 1 rfl) (ses_cons (se_nm ok _ 3 rfl) ses_nil rfl) rfl)
  · exact sb_val (se_nm ok _ 2 rfl) (fun _ => rfl)
  · exact se_tup (ses_cons (se_nm ok _ 1 rfl) (ses_cons (se_str (by kernel_rfl) _ _) ses_nil rfl) rfl)
  · kernel_rfl
  · rfl
  · exact fun _ => rfl
  · rfl
theorem df_Esc : DefFacts 37 "_iter_escaped_chars" ["addr"] ["pos", "escape", "ch"] 1 [] := ⟨fun p => by kernel_rfl, fun p => by kernel_rfl, fun p => by kernel_rfl, fun p S vs' hl => by match vs', hl with | [a], _ => kernel_rfl, fun p => by kernel_rfl, fun p => by kernel_rfl, fun p => by kernel_rfl, fun p => by kernel_rfl, by decide +kernel⟩
theorem esc_def {W : Wd} (h : Is W) : IsGenDef W 37 "_iter_escaped_chars" (escP W.w.params) (scopeOf W.w.params 37) nEsc where
  fn := by
    obtain ⟨name, params, dV, kV, doc, pm, cdv, ct, oc, an, od, osl, h1, h2, h3⟩ := fn_of h (dv := []) df_Esc .nil rfl
    refine ⟨name, params, dV, kV, doc, pm, cdv, ct, oc, an, od, osl, ?_, h2, fun x v' s hv hK => ?_⟩
    · rw [escP_body]; exact h1
    · rw [escP_body]
      exact h3 [] [.str x] [v'] s _ (.one hv) hK rfl
  co := df_Esc.co _
  gen := (show ∀ p, (scopeOf p 37).isGenerator = true from fun p => by kernel_rfl) _
  kind := df_Esc.kind _
  cell := fun x hx => by have := List.all_eq_true.mp (df_Esc.cell W.w.params) x hx; simpa using this
  names := fun i x hx => by
    have := List.all_eq_true.mp (df_Esc.names W.w.params) x (List.mem_of_getElem? hx)
    simpa using this
  nodup := df_Esc.nodup
  esc := fun X ok hcs hn => esc_ok h X ok hcs hn
  keep := by rw [h.K]; exact (show ∀ p, keepIn (hd.heap_1 p) (.ref 37) = true from fun p => by kernel_rfl) _
end Mine
end

noncomputable section -- L2w
open PySem PySem.W PySem.Calls PyProof.Rows
set_option maxRecDepth 100000
set_option autoImplicit false
namespace Mine

/-! the same rules, the judgements closed: so no elaborator looks into them -/
structure TE (W : Wd) (X : Fx) (e : PySem.Expr) (ev : EV) : Prop where
  h : SE W X (eval e X.env) ev
structure TT (W : Wd) (X : Fx) (e : PySem.Expr) (b : BV) : Prop where
  h : ST? W X e b
structure TA (W : Wd) (X : Fx) (pos : Pos) (es : List PySem.Expr) (ev : EVs) : Prop where
  h : SAs W X pos es ev
structure TG (W : Wd) (X : Fx) (pos : Pos) (es : List PySem.Expr) (ev : EVs) : Prop where
  h : ArgsS W X pos es ev
structure TB (W : Wd) (X : Fx) (ss : List Stmt) (st : ST) : Prop where
  h : SS W X (execs ss X.env) st
structure T1 (W : Wd) (X : Fx) (s : Stmt) (st : ST) : Prop where
  h : SS W X (exec s X.env) st
structure TP (W : Wd) (X : Fx) (e : Option PySem.Expr) (ev : Option EV) : Prop where
  h : PartR W X e ev
structure TO (W : Wd) (X : Fx) (fv : Value) (f : FW) : Prop where
  h : OpF W X fv f
structure TM (W : Wd) (X : Fx) (name : Str) (T : V → List O → Prop) (f : FW) : Prop where
  h : MethG W X name T f
structure TY (W : Wd) (X : Fx) (tgt : PySem.Expr) (t : TW) : Prop where
  h : STgt W X tgt t

section
variable {W : Wd} {X : Fx} {d : Nat}
theorem te_nm (O : X.Ok W d) {x : Str} (pos : Pos) (i : Nat) (hi : X.names[i]? = some x) : TE W X (.Name x pos) (eNm i) := ⟨se_nm O pos i hi⟩
theorem te_int (i : Int) (k : Nat) (pos : Pos) : TE W X (.Constant (.int i) k pos) (eInt i) := ⟨se_int i k pos⟩
theorem te_str {x : Str} {y : List Nat} (e : x = ⟨y.toArray⟩) (k : Nat) (pos : Pos) : TE W X (.Constant (.str x) k pos) (eStr y) := ⟨se_str e k pos⟩
theorem te_none (k : Nat) (pos : Pos) : TE W X (.Constant .none k pos) eNone := ⟨se_none k pos⟩
theorem te_bool (b : Bool) (k : Nat) (pos : Pos) : TE W X (.Constant (.bool b) k pos) (eBool b) := ⟨se_bool b k pos⟩
theorem te_const (ok : X.Ok W d) {x : Str} {i : Int} {t : Tok} (G : IsName W X x (.int i t)) {pos : Pos} : TE W X (.Name x pos) (eInt i) := ⟨se_const ok G⟩
theorem te_bin {a b : PySem.Expr} {ea eb : EV} {op : Operator} {pos : Pos} (ha : TE W X a ea) (hb : TE W X b eb) : TE W X (.BinOp a op b pos) (eBin op ea eb) := ⟨se_bin ha.h hb.h⟩
theorem te_neg {a : PySem.Expr} {ea : EV} {pos : Pos} (ha : TE W X a ea) : TE W X (.UnaryOp .USub a pos) (eNeg ea) := ⟨se_neg ha.h⟩
theorem te_cmp (O : X.Ok W d) {a b : PySem.Expr} {ea eb : EV} {op : CmpOp} {pos : Pos} (ha : TE W X a ea) (hb : TE W X b eb) (hm : behindInMarks op b = false) : TE W X (.Compare a [op] [b] pos) (eCmp op ea eb) := ⟨se_cmp O ha.h hb.h hm⟩
theorem te_idx {a i : PySem.Expr} {ea ei : EV} {pos : Pos} (ha : TE W X a ea) (hi : TE W X i ei) (hsub : ∀ o k, subscripted i false o k = operate [o, k] (getItem o k)) : TE W X (.Subscript a i pos) (eIdx ea ei) := ⟨se_idx ha.h hi.h hsub⟩
theorem tp_none : TP W X none none := ⟨.none⟩
theorem tp_some {e : PySem.Expr} {ev : EV} (h : TE W X e ev) : TP W X (some e) (some ev) := ⟨.some h.h⟩
theorem te_slc {a : PySem.Expr} {lo hi : Option PySem.Expr} {ea : EV} {el eh : Option EV} {p pos : Pos} (ha : TE W X a ea) (hlo : TP W X lo el) (hhi : TP W X hi eh) : TE W X (.Subscript a (.Slice lo hi none p) pos) (eSlc ea el eh) := ⟨se_slc ha.h hlo.h hhi.h⟩
theorem te_rev {a e : PySem.Expr} {ea ee : EV} {p pos : Pos} (ha : TE W X a ea) (he : TE W X e ee) (hee : ∀ l h P, ee l h P = P (.int (-1)) h) : TE W X (.Subscript a (.Slice none none (some e) p) pos) (eRev ea) := ⟨se_rev ha.h he.h hee⟩
theorem te_tab (ok : X.Ok W d) {a : Addr} {x : Str} {f : List Nat → Option Int} {e : PySem.Expr} {ev : EV} {p pos : Pos} (G : IsName W X x (.ref a)) (T : IsTab W a f) (he : TE W X e ev) (hsub : ∀ o k, subscripted e false o k = operate [o, k] (getItem o k)) :
    TE W X (.Subscript (.Name x p) e pos) (eTab f ev) := ⟨se_tab ok G T he.h hsub⟩
theorem te_attr (ok : X.Ok W d) {o : PySem.Expr} {k : Str} {i : Nat} {pos : Pos} {eo : EV} (ho : TE W X o eo) (hk : wsKeys[i]? = some k) (A : IsAttr W k) (hb : ∀ w, attributeBase o k X.env w = w) : TE W X (.Attribute o k pos) (eAttr i eo) := ⟨se_attr ok ho.h hk A (aeq hb)⟩
theorem te_cls (ok : X.Ok W d) {c k x : Str} {y : List Nat} {p pos : Pos} (G : IsName W X c (.ref W.C)) (H : IsClsVal W k x) (e : x = ⟨y.toArray⟩) : TE W X (.Attribute (.Name c p) k pos) (eStr y) := ⟨se_cls ok G H e (aeq fun _ => rfl)⟩
theorem ta_nil {pos : Pos} : TA W X pos [] esNil := ⟨ses_nil⟩
theorem ta_cons {pos : Pos} {e : PySem.Expr} {es : List PySem.Expr} {a : EV} {b : EVs} (ha : TE W X e a) (hb : TA W X pos es b) (hns : starEach (e :: es) X.env = (false, eval e X.env) :: starEach es X.env) : TA W X pos (e :: es) (esCons a b) := ⟨ses_cons ha.h hb.h hns⟩
theorem te_list {pos : Pos} {es : List PySem.Expr} {a : EVs} (h : TA W X pos es a) : TE W X (.List es pos) (eList a) := ⟨se_list h.h⟩
theorem te_tup {pos : Pos} {k : Nat} {es : List PySem.Expr} {a : EVs} (h : TA W X pos es a) : TE W X (.Tuple es k pos) (eTup a) := ⟨se_tup h.h⟩
theorem tg_nil {pos : Pos} : TG W X pos [] esNil := ⟨.nil⟩
theorem tg_cons {pos : Pos} {e : PySem.Expr} {rest : List PySem.Expr} {ea : EVs} (N : NoStar X e rest pos) (h : TA W X pos (e :: rest) ea) : TG W X pos (e :: rest) ea := ⟨.cons N h.h⟩
theorem te_app (ok : X.Ok W d) {x : Str} {fv : Value} (G : IsName W X x fv) (C : CallV W fv) {f : FW} (hf : TO W X fv f) {args : List PySem.Expr} {ea : EVs} {p pos : Pos} (N : TG W X pos args ea) : TE W X (.Call (.Name x p) args [] pos) (eApp f ea) := ⟨se_app ok G C hf.h N.h⟩
theorem te_meth (ok : X.Ok W d) {o : PySem.Expr} {name : Str} {apos pos : Pos} {args : List PySem.Expr} {eo : EV} {ea : EVs} {f : FW} {T : V → List O → Prop} (ho : TE W X o eo) (N : TG W X pos args ea) (hm : TM W X name T f)
    (hb : ∀ w, attributeBase o name X.env w = w) (hf : methodCallForm (args.length + 0) (backTo pos (starEach args X.env)) [] = true) (hp : methodCallPos true o X.env apos pos = pure pos) : TE W X (.Call (.Attribute o name apos) args [] pos) (eMeth T f eo ea) := ⟨se_meth ok ho.h N.h hm.h (meq hb hf hp)⟩
theorem tm_append : TM W X "append" isListV mAppend := ⟨m_append⟩
theorem tm_insert0 : TM W X "insert" isListV mInsert0 := ⟨m_insert0⟩
theorem tm_pop : TM W X "pop" isListV mPop := ⟨m_pop⟩
theorem tm_split : TM W X "split" isStrV (mSplit splitF) := ⟨m_split⟩
theorem tm_join : TM W X "join" isStrV mJoin0 := ⟨m_join⟩
theorem tm_inst (ok : X.Ok W d) {name : Str} {f : Addr} {fw : FW} (M : IsMeth W name f) (hf : TO W X (.ref f) fw) : TM W X name isInstV fw := ⟨meth_inst ok M hf.h⟩
theorem to_len : TO W X (.builtin "len") bLen := ⟨op_len⟩
theorem to_max (ok : X.Ok W d) : TO W X (.builtin "max") bMax := ⟨op_max ok⟩
theorem to_range : TO W X (.type "range") bRange := ⟨op_range⟩
theorem to_tuple : TO W X (.type "tuple") bTuple := ⟨op_tuple⟩
theorem te_lists (h : Is W) (ok : X.Ok W (d + 1)) (G : IsName W X "_iter_escaped_chars" (.ref 37)) (GL : IsName W X "list" (.type "list")) {arg : PySem.Expr} {ea : EV} {q q2 pos pos2 : Pos} (N : NoStar X arg [] pos) (ha : TE W X arg ea) (N2 : NoStar X (.Call (.Name "_iter_escaped_chars" q) [arg] [] pos) [] pos2) :
    TE W X (.Call (.Name "list" q2) [.Call (.Name "_iter_escaped_chars" q) [arg] [] pos] [] pos2) (eLists ea) := ⟨se_lists (esc_def h) ok G GL N ha.h N2⟩
theorem te_runs (ok : X.Ok W d) {x y : Str} {iy : Nat} {px py : Pos} {scope : Scope} {pos p1 p2 p3 p4 p5 : Pos} {k1 k2 : Nat} (hi : X.names[iy]? = some y)
    (hclos : closureFor scope X.env = pure []) (hcell : ∀ y ∈ scope.names, y.2 ≠ .cell) (hkind : scope.kind = .function)
    (hnames : ∀ y ∈ scope.names, y.2 = .local → scope.names.lookup y.1 = some .local) (hx : scope.names.lookup x = some .local)
    (hkx : (relabel scope X.env).names.lookup x = some .local) (hd : (x == ("__debug__" : Str)) = false) (hs : ∀ x, foldedSetIterable (.Name y py) X.env x = pure x) :
    TE W X (.ListComp (.BinOp (.BinOp (.Constant (.str ⟨[32].toArray⟩) k1 p1) .Mult (.Name x p2) p3) .Add (.Constant (.str ⟨[9].toArray⟩) k2 p4) p5) [⟨.Name x px, .Name y py, [], 0⟩] scope pos) (eRuns iy) := ⟨se_runs ok hi hclos hcell hkind hnames hx hkx hd hs⟩
theorem tt_cmp (O : X.Ok W d) {a b : PySem.Expr} {ea eb : EV} {op : CmpOp} {pos : Pos} (ha : TE W X a ea) (hb : TE W X b eb) (hm : behindInMarks op b = false) : TT W X (.Compare a [op] [b] pos) (bCmp op ea eb) := ⟨sb_cmp O ha.h hb.h hm⟩
theorem tt_notTab (ok : X.Ok W d) {a : Addr} {x : Str} {f : List Nat → Option Int} {e : PySem.Expr} {ev : EV} {p pos : Pos} (G : IsName W X x (.ref a)) (T : IsTab W a f) (he : TE W X e ev) : TT W X (.Compare e [.NotIn] [.Name x p] pos) (bNotTab f ev) := ⟨sb_notTab ok G T he.h⟩
theorem tt_not {x : PySem.Expr} {b : BV} {pos : Pos} (h : TT W X x b) : TT W X (.UnaryOp .Not x pos) (bNot b) := ⟨sb_not h.h⟩
theorem tt_and {x : PySem.Expr} {rest : List PySem.Expr} {a b : BV} {pos : Pos} (ha : TT W X x a) (hb : TT W X (.BoolOp .And rest pos) b) : TT W X (.BoolOp .And (x :: rest) pos) (bAnd a b) := ⟨sb_and ha.h hb.h⟩
theorem tt_nil {pos : Pos} : TT W X (.BoolOp .And [] pos) bTrue := ⟨sb_nil⟩
theorem tt_val {e : PySem.Expr} {ev : EV} (h : TE W X e ev) (he : ∀ whole : Sem Value, isTrue e X.env whole = (do let v ← whole; standAt e.pos; holding [v] (truthy v))) : TT W X e (bVal ev) := ⟨sb_val h.h he⟩
theorem tb_nil : TB W X [] sPass := ⟨ss_nil⟩
theorem tb_cons {st : Stmt} {rest : List Stmt} {a b : ST} (ha : T1 W X st a) (hb : TB W X rest b) : TB W X (st :: rest) (sSeq a b) := ⟨ss_cons ha.h hb.h⟩
theorem tb_fail {ss : List Stmt} : TB W X ss sFail := ⟨ss_fail⟩
theorem t1_asg (O : X.Ok W d) {x : Str} {i : Nat} (hi : X.names[i]? = some x) {e : PySem.Expr} {ev : EV} {p pos : Pos} (he : TE W X e ev) (hs : swapsWith e (some (.Name x p)) pos.line X.env = pure false) : T1 W X (.Assign [.Name x p] e pos) (sAsg i ev) := ⟨ss_asg O hi he.h hs⟩
theorem t1_asg3 (O : X.Ok W d) {x y z : Str} {i j k : Nat} (hi : X.names[i]? = some x) (hj : X.names[j]? = some y) (hk : X.names[k]? = some z) {e : PySem.Expr} {ev : EV} {p q r pos : Pos} (he : TE W X e ev)
    (hw : swappedStores [.Name x p, .Name y q, .Name z r] e X.env = pure none) : T1 W X (.Assign [.Name x p, .Name y q, .Name z r] e pos) (sAsg3 i j k ev) := ⟨ss_asg3 O hi hj hk he.h hw⟩
theorem ty_nm (O : X.Ok W d) {x : Str} {i : Nat} (hi : X.names[i]? = some x) {pos : Pos} : TY W X (.Name x pos) (tNm i) := ⟨tg_nm O hi⟩
theorem ty_pair (O : X.Ok W d) {x y : Str} {i j : Nat} (hi : X.names[i]? = some x) (hj : X.names[j]? = some y) {p q pos : Pos} {k : Nat} : TY W X (.Tuple [.Name x p, .Name y q] k pos) (tPair i j) := ⟨tg_pair O hi hj⟩
theorem t1_pair {es : List PySem.Expr} {k : Nat} {e : PySem.Expr} {ev : EV} {t : TW} {p pos : Pos} (he : TE W X e ev) (ht : TY W X (.Tuple es k p) t) (hs : swapsWithSole [.Tuple es k p] e pos.line X.env = pure false) (hw : swappedStores [.Tuple es k p] e X.env = pure none) :
    T1 W X (.Assign [.Tuple es k p] e pos) (sTgt t ev) := ⟨ss_pair he.h ht.h hs hw⟩
theorem t1_swap (O : X.Ok W d) {es : List PySem.Expr} {k : Nat} {e : PySem.Expr} {ev : EV} {x y : Str} {i j : Nat} {p pos : Pos} (hi : X.names[i]? = some x) (hj : X.names[j]? = some y) (he : TE W X e ev)
    (hs : swapsWithSole [.Tuple es k p] e pos.line X.env = pure false) (hw : swappedStores [.Tuple es k p] e X.env = pure (some [x, y])) : T1 W X (.Assign [.Tuple es k p] e pos) (sTgt (tSwap i j) ev) := ⟨ss_swap O hi hj he.h hs hw⟩
theorem t1_put {e o i : PySem.Expr} {ee eo ei : EV} {p pos : Pos} (he : TE W X e ee) (ho : TE W X o eo) (hi : TE W X i ei) (hs : swapsWith e (some (.Subscript o i p)) pos.line X.env = pure false) : T1 W X (.Assign [.Subscript o i p] e pos) (sPut ee eo ei) := ⟨ss_put he.h ho.h hi.h hs⟩
theorem t1_attr (ok : X.Ok W d) {o e : PySem.Expr} {k : Str} {i : Nat} {p pos : Pos} {eo ee : EV} (ho : TE W X o eo) (he : TE W X e ee) (hk : wsKeys[i]? = some k) (A : IsAttr W k) (hs : swapsWith e (some (.Attribute o k p)) pos.line X.env = pure false) :
    T1 W X (.Assign [.Attribute o k p] e pos) (sAttr i ee eo) := ⟨ss_attr ok ho.h he.h hk A hs⟩
theorem t1_aug (O : X.Ok W d) {x : Str} {i : Nat} (hi : X.names[i]? = some x) {op : Operator} {e : PySem.Expr} {ev : EV} {p pos : Pos} (he : TE W X e ev) : T1 W X (.AugAssign (.Name x p) op e pos) (sAug i op ev) := ⟨ss_aug O hi he.h⟩
theorem t1_exp {e : PySem.Expr} {ev : EV} {pos : Pos} (he : TE W X e ev) (hi : interactive X.env = false) (hs : swapsWith e none pos.line X.env = pure false) : T1 W X (.Expr e pos) (sExp ev) := ⟨ss_exp he.h hi hs⟩
theorem t1_ret {e : PySem.Expr} {ev : EV} {pos : Pos} (he : TE W X e ev) : T1 W X (.Return (some e) pos) (sRet ev) := ⟨ss_ret he.h⟩
theorem t1_if {t : PySem.Expr} {body orelse : List Stmt} {b : BV} {x y : ST} {pos : Pos} (ht : TT W X t b) (hx : TB W X body x) (hy : TB W X orelse y) : T1 W X (.If t body orelse pos) (sIf b x y) := ⟨ss_if ht.h hx.h hy.h⟩
theorem t1_while {t : PySem.Expr} {body : List Stmt} {b : BV} {x : ST} {pos : Pos} (ht : TT W X t b) (hx : TB W X body x) : T1 W X (.While t body [] pos) (sWhile b x) := ⟨ss_while ht.h hx.h⟩
theorem t1_brk {pos : Pos} : T1 W X (.Break pos) sBrk := ⟨ss_brk⟩
theorem t1_cont {pos : Pos} : T1 W X (.Continue pos) sCont := ⟨ss_cont⟩
theorem t1_forL (O : X.Ok W d) {tgt e : PySem.Expr} {body : List Stmt} {ev : EV} {t : TW} {x : ST} {pos : Pos} (he : TE W X e ev) (ht : TY W X tgt t) (hx : TB W X body x) (hs : ∀ y, foldedSetIterable e X.env y = pure y) : T1 W X (.For tgt e body [] pos) (sForL ev t x) := ⟨ss_forL O he.h ht.h hx.h hs⟩
theorem t1_forS (O : X.Ok W d) {y : Str} {p : Pos} {e : PySem.Expr} {body : List Stmt} {ev : EV} {t : TW} {x : ST} {pos : Pos} (he : TE W X e ev) (ht : TY W X (.Name y p) t) (hx : TB W X body x) (hs : ∀ y, foldedSetIterable e X.env y = pure y) : T1 W X (.For (.Name y p) e body [] pos) (sForS ev t x) := ⟨ss_forS O he.h ht.h hx.h hs⟩
theorem t1_forR (O : X.Ok W d) {y : Str} {p : Pos} {e : PySem.Expr} {body : List Stmt} {ev : EV} {t : TW} {x : ST} {pos : Pos} (he : TE W X e ev) (ht : TY W X (.Name y p) t) (hx : TB W X body x) (hs : ∀ y, foldedSetIterable e X.env y = pure y) : T1 W X (.For (.Name y p) e body [] pos) (sForR ev t x) := ⟨ss_forR O he.h ht.h hx.h hs⟩
theorem t1_forG (h : Is W) (ok : X.Ok W (d + 1)) (G : IsName W X "_iter_escaped_chars" (.ref 37)) {arg : PySem.Expr} {ea : EV} {q pos pos2 : Pos} (N : NoStar X arg [] pos) (ha : TE W X arg ea) {tgt : PySem.Expr} {t : TW} (ht : TY W X tgt t) {body : List Stmt} {b : ST} (hb : TB W X body b)
    (hs : ∀ y, foldedSetIterable (.Call (.Name "_iter_escaped_chars" q) [arg] [] pos) X.env y = pure y) : T1 W X (.For tgt (.Call (.Name "_iter_escaped_chars" q) [arg] [] pos) body [] pos2) (sForG ea t b) := ⟨ss_forG (esc_def h) ok G N ha.h ht.h hb.h hs⟩
end
end Mine
end

noncomputable section -- L6a
open PySem PySem.W PySem.Calls PyProof.Rows
set_option maxRecDepth 100000
set_option autoImplicit false
namespace Mine

section
variable {W : Wd} {X : Fx} {g : Gx} {ρ : Rho} {l : Loc} {hp : List O} {s : Shared} {P : V → List O → Prop} {E : Value → Shared → Prop}

theorem intsAre_sub : ∀ {vs : List Value}, (∀ v ∈ vs, ∃ n t, v = Value.int n t) → ∃ ns, IntsAre vs ns
  | [], _ => ⟨[], .nil⟩
  | v :: vs, h => by
    obtain ⟨n, t, rfl⟩ := h v (.head _)
    obtain ⟨ns, r⟩ := intsAre_sub (vs := vs) fun u hu => h u (.tail _ hu)
    exact ⟨n :: ns, .cons n t r⟩
theorem intsAre_mem : ∀ {vs : List Value} {ns : List Int}, IntsAre vs ns → ∀ v ∈ vs, ∃ n t, v = Value.int n t
  | _, _, .nil, _, h => nomatch h
  | _, _, .cons n t r, v, h => by
    rcases List.mem_cons.mp h with rfl | h
    · exact ⟨n, t, rfl⟩
    · exact intsAre_mem r v h
theorem pick_ints {vs : List Value} {ns : List Int} (hi : IntsAre vs ns) (lo hi' st : Option Int) : ∃ ms, IntsAre (slicePick vs.toArray lo hi' st).toList ms := by
  refine intsAre_sub fun v hv => ?_
  unfold slicePick at hv
  rw [List.toList_toArray] at hv
  obtain ⟨k, _, hk⟩ := List.mem_filterMap.mp hv
  refine intsAre_mem hi v ?_
  have hk' : vs.toArray[k]? = some v := hk
  rw [List.getElem?_toArray] at hk'
  exact List.mem_of_getElem? hk'

/-- sum(script[i:60:3]) % 10 ** 6 -/
theorem elt_sums {h₀ h' : Heap} {L C c ax : Addr} {m m₂ mg mb : Str → Option Value} {all : List (Addr × Obj)} {scope : Scope} {cl : List (Str × Addr)} {env : Env} {A : Around} {K : Frag} {p : Program} {loose : List Str} {mean : ExcName → Option Value} {prog : Program} {w : World}
    {xsum xscr xi : Str} {co oC : Obj} {vs : List Value} {ns : List Int} {i : Int} {t : Tok} {p1 p2 p3 p4 p5 p6 p7 p8 p9 p10 p11 p12 : Pos} {k1 k2 k3 k4 : Nat} {Q : Value → Shared → Prop}
    (hh : A.handled = none) (X : K.In h₀) (T : Top p loose mean mg mb h₀) (F : Fr h₀ L s.heap m) (N : News h₀ L s.heap all) (hc : cl.lookup xscr = some c) (hm : (c, co) ∈ all) (hco : co.data = .cell (some (.ref ax))) (hl : h₀.IsList ax vs.toArray) (hi : IntsAre vs ns) (hsz : vs.length ≤ 63)
    (hC : (C, oC) ∈ all) (hoC : LCg.NsObj oC m₂) (hx : m₂ xi = some (.int i t))
    (e1 : nsIn K mainGlobals xsum = some none) (e2 : bootBuiltins xsum = some (.builtin "sum")) (e3 : xsum ≠ "__name__") (hg : env.globals = mainGlobals) (hb : env.builtins = builtinsNs)
    (hk : (compEnvC scope cl C env).scope.kind = .function) (x1 : (compEnvC scope cl C env).kindOf xsum = some .globalImplicit) (x2 : (compEnvC scope cl C env).kindOf xscr = some .cell) (x3 : (compEnvC scope cl C env).kindOf xi = some .local)
    (n1 : (xsum == ("__debug__" : Str)) = false) (n2 : (xscr == ("__debug__" : Str)) = false) (n3 : (xi == ("__debug__" : Str)) = false)
    (h : ∀ h' tk (k : Nat) t', Fr h₀ L h' m → News h₀ L h' all → Q (.int (k : Int) t') { s with heap := h', toks := tk }) :
    wpAny (model prog w) A (eval (.BinOp (.Call (.Name xsum p1) [.Subscript (.Name xscr p2) (.Slice (some (.Name xi p3)) (some (.Constant (.int 60) k1 p4)) (some (.Constant (.int 3) k2 p5)) p6) p7] [] p8) .Mod (.BinOp (.Constant (.int 10) k3 p9) .Pow (.Constant (.int 6) k4 p10) p11) p12) (compEnvC scope cl C env)) Q E s := by
  refine wpAny_BinOp (Call_Name1 (LCgL.ld_built F X T e1 e2 e3 (callWith_builtin1 ?_) hg hb hk x1 n1) rfl)
  refine Subscript_ (lcf_cell N hc hm hco ?_ hk x2 n2)
  refine wpAny_Slice (wpAny_evalPart_some (LCgL.ld_own N hC hoC hx ?_ hk x3 n3))
  refine wpAny_evalPart_some (wpAny_Constant_int ?_)
  refine wpAny_evalPart_some (wpAny_Constant_int ?_)
  have up : ∀ (ob : Obj) (b : Addr) (o : Obj), s.heap.get? b = some o → (s.heap.push ob).get? b = some o := fun ob b o e => Heap.get?_push_of_some _ e
  have hl1 : ∀ {H : Heap}, (∀ b o, h₀.get? b = some o → H.get? b = some o) → H.IsList ax vs.toArray := fun k => by obtain ⟨o, e, r⟩ := hl; exact ⟨o, k _ _ e, r⟩
  have F1 := F.push { cls := .type "slice", data := .fields #[.int i t, .int 60 s.toks, .int 3 (s.toks + 1)] }
  have N1 : News h₀ L (s.heap.push { cls := .type "slice", data := .fields #[.int i t, .int 60 s.toks, .int 3 (s.toks + 1)] }) all := N.grown fun _ _ e => Heap.get?_push_of_some _ e
  have hsl : (s.heap.push { cls := .type "slice", data := .fields #[.int i t, .int 60 s.toks, .int 3 (s.toks + 1)] }).get? s.heap.objs.size = some { cls := .type "slice", data := .fields #[.int i t, .int 60 s.toks, .int 3 (s.toks + 1)] } := Heap.get?_push_size _ rfl
  refine tail_any (hl1 F1.keep).typeIs slot_list_getitem.lookup (wpAny_getItem_list_slice (hl1 F1.keep) ⟨_, hsl, rfl, rfl⟩ (.int i t) (.int 60 _) (.int 3 _) (by intro e; cases e) ?_ (by rw [List.size_toArray]; exact sizeLine_ge (by lia))) rfl
  obtain ⟨ms, hms⟩ := pick_ints hi (some i) (some 60) (some 3)
  have F2 := F1.push { cls := .type "list", data := .seq (slicePick vs.toArray (some i) (some 60) (some 3)) }
  have N2 : News h₀ L ((s.heap.push { cls := .type "slice", data := .fields #[.int i t, .int 60 s.toks, .int 3 (s.toks + 1)] }).push { cls := .type "list", data := .seq (slicePick vs.toArray (some i) (some 60) (some 3)) }) all := N1.grown fun _ _ e => Heap.get?_push_of_some _ e
  refine sumK (vs := (slicePick vs.toArray (some i) (some 60) (some 3)).toList) hh F2 N2 ⟨_, Heap.get?_push_size _ rfl, rfl, 0, by simp⟩ hms fun h' tk t' F3 N3 => ?_
  refine wpAny_BinOp (wpAny_Constant_int (wpAny_Constant_int ?_))
  refine pow_int (by decide) (by decide) ?_
  refine PyProof.Rows.mod_int (by decide) ?_
  have hk0 : ms.sum.fmod ((10 : Int) ^ (6 : Int).toNat) = ((ms.sum.fmod ((10 : Int) ^ (6 : Int).toNat)).toNat : Int) := by
    have := Int.fmod_nonneg_of_pos ms.sum (show (0 : Int) < (10 : Int) ^ (6 : Int).toNat by decide)
    lia
  rw [hk0]
  exact h _ _ _ _ F3 N3
end
end Mine
end

noncomputable section -- L6b
open PySem PySem.W PySem.Calls PyProof.Rows
set_option maxRecDepth 100000
set_option autoImplicit false
namespace Mine

section
variable {M : Model} {A : Around} {E : Value → Shared → Prop} {s : Shared} {pos : Pos} {Q : Value → Shared → Prop}
theorem callWith_builtin2 {id : String} {t1 t2 : Sem Value} (h : wpAny M A t1 (fun v1 s₁ => wpAny M A t2 (fun v2 s₂ => wpAny M A (call (.builtin id) [v1, v2]) Q E s₂) E s₁) E s) : wpAny M A (callWith pos (.builtin id) [] [(false, t1), (false, t2)] []) Q E s :=
  Calls.callWith_builtin rfl (Calls.evalArgs_plain (Calls.spliced_cons (wpAny_mono h (fun v1 s₁ h₁ => Calls.spliced_cons (wpAny_mono h₁ (fun v2 s₂ h₂ => Calls.spliced_nil h₂) fun _ _ e => e)) fun _ _ e => e)))
end
section
variable {W : Wd} {X : Fx} {g : Gx} {ρ : Rho} {l : Loc} {hp : List O} {s : Shared} {P : V → List O → Prop} {E : Value → Shared → Prop}

theorem range_small {n : Nat} (h : n ≤ 3) : Builtin.Range.small 0 (n : Int) 1 = true ∧ Builtin.Range.rangeSize 0 (n : Int) 1 = ((n : Nat) : Int) := by
  have : n = 0 ∨ n = 1 ∨ n = 2 ∨ n = 3 := by lia
  rcases this with rfl | rfl | rfl | rfl <;> decide
/-- range(min(3, len(script))) -/
theorem iter_sums {d : Nat} (ok : X.Ok W d) {xrange xmin xlen xscr : Str} {c ax : Addr} {co : Obj} {vs : List Value} {q1 q2 q3 q4 q5 q6 q7 q8 : Pos} {k5 : Nat} {Q : Value → Shared → Prop}
    (G1 : IsName W X xrange (.type "range")) (G2 : IsName W X xmin (.builtin "min")) (G3 : IsName W X xlen (.builtin "len")) (hc : X.cl.lookup xscr = some c) (hm : (c, co) ∈ g.ext) (hco : co.data = .cell (some (.ref ax))) (hl : X.h₀.IsList ax vs.toArray) (hsz : vs.length ≤ 63)
    (hx : X.env.kindOf xscr = some .cell) (hb : (xscr == ("__debug__" : Str)) = false) (I : Inv W X g ρ l hp s) {m₀ : Str → Option Value} (F₀ : Fr X.h₀ X.L s.heap m₀)
    (h : ∀ s' r t u v, Inv W X g ρ l hp s' → Fr X.h₀ X.L s'.heap m₀ → IsRange s'.heap r 0 ((min 3 vs.length : Nat) : Int) 1 t u v → Q (.ref r) s') :
    wpAny W.M X.A (eval (.Call (.Name xrange q1) [.Call (.Name xmin q2) [.Constant (.int 3) k5 q3, .Call (.Name xlen q4) [.Name xscr q5] [] q6] [] q7] [] q8) X.env) Q E s := by
  refine Call_Name1 (ev_name ok G1 I (callWith_type1 ?_)) rfl
  refine Call_Name2 (ev_name ok G2 I (callWith_builtin2 ?_)) rfl
  refine wpAny_Constant_int ?_
  have I1 := I.toks (s.toks + 1)
  refine Call_Name1 (ev_name ok G3 I1 (callWith_builtin1 ?_)) rfl
  obtain ⟨m, F, lr, N⟩ := I1.frame
  refine nameX_C N hc (List.mem_append_right _ hm) hco ?_ ok.kind hx hb
  have hl1 : s.heap.IsList ax vs.toArray := by obtain ⟨o, e, r⟩ := hl; exact ⟨o, I.old _ _ e, r⟩
  refine call_len_list hl1 (by rw [List.size_toArray]; lia) ?_
  refine min_two_ints ok.handled fun h' tk hk => ?_
  rw [List.size_toArray]
  have I2 := I1.keep hk tk
  have e : ∀ a b : Tok, (if ((vs.length : Nat) : Int) < 3 then Value.int ((vs.length : Nat) : Int) a else Value.int 3 b) = .int ((min 3 vs.length : Nat) : Int) (if ((vs.length : Nat) : Int) < 3 then a else b) := fun a b => by
    by_cases q : ((vs.length : Nat) : Int) < 3
    · rw [if_pos q, if_pos q, show min 3 vs.length = vs.length by lia]
    · rw [if_neg q, if_neg q, show min 3 vs.length = 3 by lia]; rfl
  rw [e]
  refine call_range_1 ?_
  exact h _ _ _ _ _ (I2.keep (fun _ _ e => Heap.get?_push_of_some _ e) _) ((F₀.keeps hk).push _) (Heap.get?_push_size _ rfl)

theorem vis_snoc (ns : List Nat) (k : Nat) : (ns ++ [k]).map (fun (x : Nat) => V.int x) = ns.map (fun (x : Nat) => V.int x) ++ [V.int k] := by simp
theorem lr_set {d : Nat} (ok : X.Ok W d) {i : Nat} {y : Str} (hi : X.names[i]? = some y) {m : Str → Option Value} (lr : LR X.names ρ l m) {v : V} {v' : Value} (hv : VR ρ v v') : LR X.names ρ (l.set i (some v)) (fun z => if z = y then some v' else m z) := by
  intro j z u hj hu
  by_cases hij : j = i
  · subst hij
    rw [hi] at hj
    cases hj
    have hl : j < l.length := by
      have := (List.getElem?_eq_some_iff.mp hu).1
      simpa using this
    rw [List.getElem?_set_self hl] at hu
    cases hu
    exact ⟨v', if_pos rfl, hv⟩
  · rw [List.getElem?_set_ne (fun q => hij q.symm)] at hu
    obtain ⟨w, h1, h2⟩ := lr j z u hj hu
    refine ⟨w, ?_, h2⟩
    have : z ≠ y := by
      rintro rfl
      have a1 := List.getElem?_eq_some_iff.mp hj
      have a2 := List.getElem?_eq_some_iff.mp hi
      obtain ⟨b1, c1⟩ := a1
      obtain ⟨b2, c2⟩ := a2
      exact hij ((List.getElem_inj ok.nodup).mp (c1.trans c2.symm))
    simp only [if_neg this]
    exact h1
/-- [sum(script[i:60:3]) % 10 ** 6 for i in range(min(3, len(script)))] -/
theorem asg_sums {d : Nat} (ok : X.Ok W d) {xrange xmin xlen xscr xsum xi : Str} {c ax : Addr} {co : Obj} {vs : List Value} {ns : List Int} {scope : Scope} {cl : List (Str × Addr)} {yn : Str} {iy : Nat} {PS : Out → Loc → List O → Prop} {py spos px q1 q2 q3 q4 q5 q6 q7 q8 p1 p2 p3 p4 p5 p6 p7 p8 p9 p10 p11 p12 pos : Pos} {k1 k2 k3 k4 k5 : Nat}
    (G1 : IsName W X xrange (.type "range")) (G2 : IsName W X xmin (.builtin "min")) (G3 : IsName W X xlen (.builtin "len")) (hc : X.cl.lookup xscr = some c) (hm : (c, co) ∈ g.ext) (hco : co.data = .cell (some (.ref ax))) (hl : X.h₀.IsList ax vs.toArray) (hi : IntsAre vs ns) (hsz : vs.length ≤ 63)
    (hx : X.env.kindOf xscr = some .cell) (hb : (xscr == ("__debug__" : Str)) = false)
    (e1 : nsIn W.K mainGlobals xsum = some none) (e2 : bootBuiltins xsum = some (.builtin "sum")) (e3 : xsum ≠ "__name__")
    (hclos : closureFor scope X.env = pure cl) (hcc : cl.lookup xscr = some c) (hcell : ∀ y ∈ scope.names, y.2 ≠ .cell) (hkind : scope.kind = .function)
    (hnames : ∀ y ∈ scope.names, y.2 = .local → scope.names.lookup y.1 = some .local) (hxi : scope.names.lookup xi = some .local)
    (x1 : (relabel scope X.env).names.lookup xsum = some .globalImplicit) (x2 : (relabel scope X.env).names.lookup xscr = some .cell) (x3 : (relabel scope X.env).names.lookup xi = some .local)
    (n1 : (xsum == ("__debug__" : Str)) = false) (n3 : (xi == ("__debug__" : Str)) = false)
    (hs : ∀ x, foldedSetIterable (.Call (.Name xrange q1) [.Call (.Name xmin q2) [.Constant (.int 3) k5 q3, .Call (.Name xlen q4) [.Name xscr q5] [] q6] [] q7] [] q8) X.env x = pure x)
    (hiy : X.names[iy]? = some yn) (hsw : swapsWith (.ListComp (.BinOp (.Call (.Name xsum p1) [.Subscript (.Name xscr p2) (.Slice (some (.Name xi p3)) (some (.Constant (.int 60) k1 p4)) (some (.Constant (.int 3) k2 p5)) p6) p7] [] p8) .Mod (.BinOp (.Constant (.int 10) k3 p9) .Pow (.Constant (.int 6) k4 p10) p11) p12)
      [⟨.Name xi px, .Call (.Name xrange q1) [.Call (.Name xmin q2) [.Constant (.int 3) k5 q3, .Call (.Name xlen q4) [.Name xscr q5] [] q6] [] q7] [] q8, [], 0⟩] scope pos) (some (.Name yn py)) spos.line X.env = pure true)
    (I : Inv W X g ρ l hp s) (h : ∀ ks : List Nat, ks.length ≤ 3 → PS .next (l.set iy (some (.ref hp.length))) (hp ++ [.list (ks.map fun (x : Nat) => V.int x)])) :
    wpAny W.M X.A (exec (.Assign [.Name yn py] (.ListComp (.BinOp (.Call (.Name xsum p1) [.Subscript (.Name xscr p2) (.Slice (some (.Name xi p3)) (some (.Constant (.int 60) k1 p4)) (some (.Constant (.int 3) k2 p5)) p6) p7] [] p8) .Mod (.BinOp (.Constant (.int 10) k3 p9) .Pow (.Constant (.int 6) k4 p10) p11) p12)
      [⟨.Name xi px, .Call (.Name xrange q1) [.Call (.Name xmin q2) [.Constant (.int 3) k5 q3, .Call (.Name xlen q4) [.Name xscr q5] [] q6] [] q7] [] q8, [], 0⟩] scope pos) spos) X.env) (PostS W X g ρ PS) E s := by
  obtain ⟨m, F, lr, N⟩ := I.frame
  refine LCg.Assign_ListComp_U F rfl hsw hclos hcell hkind hnames hxi (ok.names iy yn hiy).1 (by show (X.cs.kind == .class || (X.cs.kind == .module && X.L != mainGlobals)) = false; rw [ok.kind]; rfl) ?_ hs
  refine iter_sums ok G1 G2 G3 hc hm hco hl hsz hx hb I F fun s' r t u v I' F' hr => ?_
  obtain ⟨_, _, _, N'⟩ := I'.frame
  obtain ⟨r1, r2⟩ := range_small (n := min 3 vs.length) (by lia)
  refine LCg.CompSrc.range ok.handled F' N' hr r1 r2 (sizeLine_ge (by lia)) fun gh => ?_
  have main : ∀ (j i : Nat) (ys : List Value) (ks : List Nat), j + i = min 3 vs.length → ks.length = i → VRs ρ (ks.map fun (x : Nat) => V.int x) ys →
      LCg.CompRest W.prog W.w X.A X.h₀ X.L m X.env (.BinOp (.Call (.Name xsum p1) [.Subscript (.Name xscr p2) (.Slice (some (.Name xi p3)) (some (.Constant (.int 60) k1 p4)) (some (.Constant (.int 3) k2 p5)) p6) p7] [] p8) .Mod (.BinOp (.Constant (.int 10) k3 p9) .Pow (.Constant (.int 6) k4 p10) p11) p12) xi scope cl { s' with heap := gh } (fun _ => True) (fun i v => ∃ t, v = .int (0 + (i : Int)) t)
        (LCg.FinA X.h₀ X.L m { s' with heap := gh } yn (PostS W X g ρ PS)) j i ys (led s'.heap ρ g.ext) := by
    intro j
    induction j with
    | zero =>
      intro i ys ks hji hkl hys
      refine LCg.CompRest.zero fun D h' tk F2 N2 off => ?_
      have n1 := N2 (D, LCg.lst ys) (.head _)
      have hc2 := off1_mem off
      exact ⟨_, .next, _, _, Ext.snoc _ _, rfl, ⟨⟨_, F2, lr_set ok hiy (lr.ext (Ext.snoc _ _)) (I'.ref_new (_, _))⟩, I'.hr.addAt (fun e he => N2 e (.tail _ he)) (fun e he => ⟨hc2 e he, hc2 e he⟩) ⟨_, n1⟩ ⟨_, n1⟩ (o := .list (ks.map fun (x : Nat) => V.int x)) ⟨ys, ys.length, n1.1, hys.ext (Ext.snoc _ _)⟩, I'.os, I'.gens, I'.gx⟩, h ks (by lia)⟩
    | succ j ih =>
      intro i ys ks hji hkl hys
      refine LCg.CompRest.succ fun v I2 oI C oC D m₂ h' tk E' hv hoC hm₂ F2 N2 off ne => ?_
      obtain ⟨t, rfl⟩ := hv
      have hmem : (c, co) ∈ (I2, oI) :: (C, oC) :: (D, LCg.lst ys) :: led s'.heap ρ g.ext := .tail _ (.tail _ (.tail _ (List.mem_append_right _ hm)))
      refine elt_sums (h' := h') ok.handled ok.K ok.T F2 N2 hcc hmem hco hl hi hsz (.tail _ (.head _)) hoC hm₂ e1 e2 e3 rfl rfl hkind x1 x2 x3 n1 hb n3 fun h3 tk3 k t' F3 N3 => ?_
      refine LCg.CompEnd.intro F3 N3 (led s'.heap ρ g.ext) (fun p hp => hp) off trivial (ih (i + 1) _ (ks ++ [k]) (by lia) (by rw [List.length_append, hkl]; rfl) ?_)
      rw [vis_snoc]
      exact hys.append (.one (VR.int _ _))
  exact main (min 3 vs.length) 0 [] [] rfl rfl .nil
end
end Mine
end

noncomputable section -- L2d
open PySem PySem.W PySem.Calls PyProof.Rows
set_option maxRecDepth 100000
set_option autoImplicit false
namespace Mine
noncomputable def wWrite : ST := (sSeq (sAsg 3 (eList (esCons (eNm 1) (esCons (eIdx (eNm 0) (eInt 1)) (esCons (eIdx (eNm 0) (eInt 2)) esNil))))) (sSeq (sPut (eBin .Add (eIdx (eNm 0) (eInt 0)) (eNm 2)) (eNm 0) (eInt 0)) (sSeq (sPut (eBin .Add (eIdx (eNm 0) (eInt 2)) (eApp bLen (esCons (eNm 2) esNil))) (eNm 0) (eInt 2)) (sSeq (sIf (bCmp .Eq (eSlc (eNm 2) (some (eNeg (eInt 1))) none) (eStr [10])) (sSeq (sPut (eBin .Add (eIdx (eNm 0) (eInt 1)) (eInt 1)) (eNm 0) (eInt 1)) (sSeq (sPut (eInt 0) (eNm 0) (eInt 2)) sPass)) sPass) (sSeq (sRet (eNm 3)) sPass)))))
noncomputable def fWrite : FW := defW (inits 3 [] 1) wWrite
theorem ss_Write {W : Wd} (h : Is W) (X : Fx) (ok : X.Ok W 0) (hcs : X.cs = scopeOf W.w.params 148) (hn : X.names = (["page", "number", "signs"] : List Str) ++ (["leaf"] : List Str)) : TB W X (bodyOf W.w.params 148) wWrite := by
  obtain ⟨A₀, base, outer, h₀, L, cn, cs, a, ccd, names, os, clx⟩ := X
  obtain rfl : cs = _ := hcs
  obtain rfl : names = _ := hn
  unfold wWrite
  refine tb_cons ?_ ?_
  · refine t1_asg ok rfl ?_ rfl
    · refine te_list ?_
      · refine ta_cons ?_ ?_ rfl
        · exact te_nm ok _ 1 rfl
        · refine ta_cons ?_ ?_ rfl
          · refine te_idx ?_ ?_ (fun _ _ => rfl)
            · exact te_nm ok _ 0 rfl
            · exact te_int _ _ _
          · refine ta_cons ?_ ?_ rfl
            · refine te_idx ?_ ?_ (fun _ _ => rfl)
              · exact te_nm ok _ 0 rfl
              · exact te_int _ _ _
            · exact ta_nil
  · refine tb_cons ?_ ?_
    · refine t1_put ?_ ?_ ?_ rfl
      · refine te_bin ?_ ?_
        · refine te_idx ?_ ?_ (fun _ _ => rfl)
          · exact te_nm ok _ 0 rfl
          · exact te_int _ _ _
        · exact te_nm ok _ 2 rfl
      · exact te_nm ok _ 0 rfl
      · exact te_int _ _ _
    · refine tb_cons ?_ ?_
      · refine t1_put ?_ ?_ ?_ rfl
        · refine te_bin ?_ ?_
          · refine te_idx ?_ ?_ (fun _ _ => rfl)
            · exact te_nm ok _ 0 rfl
            · exact te_int _ _ _
          · refine te_app ok (g_B h n_len b_len (by decide) (by kernel_rfl) (by rfl)) (.builtin _) (to_len) ?_
            · refine tg_cons ⟨rfl, rfl⟩ ?_
              refine ta_cons ?_ ?_ rfl
              · exact te_nm ok _ 2 rfl
              · exact ta_nil
        · exact te_nm ok _ 0 rfl
        · exact te_int _ _ _
      · refine tb_cons ?_ ?_
        · refine t1_if ?_ ?_ ?_
          · refine tt_cmp ok ?_ ?_ rfl
            · refine te_slc ?_ ?_ ?_
              · exact te_nm ok _ 2 rfl
              · refine tp_some ?_
                refine te_neg ?_
                · exact te_int _ _ _
              · exact tp_none
            · exact te_str (by kernel_rfl) _ _
          · refine tb_cons ?_ ?_
            · refine t1_put ?_ ?_ ?_ rfl
              · refine te_bin ?_ ?_
                · refine te_idx ?_ ?_ (fun _ _ => rfl)
                  · exact te_nm ok _ 0 rfl
                  · exact te_int _ _ _
                · exact te_int _ _ _
              · exact te_nm ok _ 0 rfl
              · exact te_int _ _ _
            · refine tb_cons ?_ ?_
              · refine t1_put ?_ ?_ ?_ rfl
                · exact te_int _ _ _
                · exact te_nm ok _ 0 rfl
                · exact te_int _ _ _
              · exact tb_nil
          · exact tb_nil
        · refine tb_cons ?_ ?_
          · refine t1_ret ?_
            · exact te_nm ok _ 3 rfl
          · exact tb_nil
theorem df_Write : DefFacts 148 "_law_write" ["page", "number", "signs"] ["leaf"] 3 [] := ⟨fun p => by kernel_rfl, fun p => by kernel_rfl, fun p => by kernel_rfl, fun p S vs' hl => by match vs', hl with | [a, b, c], _ => kernel_rfl, fun p => by kernel_rfl, fun p => by kernel_rfl, fun p => by kernel_rfl, fun p => by kernel_rfl, by decide +kernel⟩
theorem of_Write {W : Wd} (h : Is W) {X : Fx} (ok : X.Ok W 1) : TO W X (.ref 148) fWrite := ⟨opf_def (mkDef h (dv := []) df_Write (fun p => by kernel_rfl) .nil rfl) (fun X ok hcs hn => (ss_Write h X ok hcs hn).h) ok⟩
theorem keep_Write {W : Wd} (h : Is W) : keepIn W.K (.ref 148) = true := by rw [h.K]; exact (show ∀ p, keepIn (hd.heap_1 p) (.ref 148) = true from fun p => by kernel_rfl) _

noncomputable def wTerm : ST := (sSeq (sRet (eCmp .Lt (eNm 0) (eInt 256))) sPass)
noncomputable def fTerm : FW := defW (inits 1 [] 0) wTerm
theorem ss_Term {W : Wd} (h : Is W) (X : Fx) (ok : X.Ok W 0) (hcs : X.cs = scopeOf W.w.params 127) (hn : X.names = (["x"] : List Str) ++ ([] : List Str)) : TB W X (bodyOf W.w.params 127) wTerm := by
  obtain ⟨A₀, base, outer, h₀, L, cn, cs, a, ccd, names, os, clx⟩ := X
  obtain rfl : cs = _ := hcs
  obtain rfl : names = _ := hn
  unfold wTerm
  refine tb_cons ?_ ?_
  · refine t1_ret ?_
    · refine te_cmp ok ?_ ?_ rfl
      · exact te_nm ok _ 0 rfl
      · exact te_const ok (g_K h k_nt (by kernel_rfl) (by rfl))
  · exact tb_nil
theorem df_Term : DefFacts 127 "ISTERMINAL" ["x"] [] 1 [] := ⟨fun p => by kernel_rfl, fun p => by kernel_rfl, fun p => by kernel_rfl, fun p S vs' hl => by match vs', hl with | [a], _ => kernel_rfl, fun p => by kernel_rfl, fun p => by kernel_rfl, fun p => by kernel_rfl, fun p => by kernel_rfl, by decide +kernel⟩
theorem of_Term {W : Wd} (h : Is W) {X : Fx} (ok : X.Ok W 1) : TO W X (.ref 127) fTerm := ⟨opf_def (mkDef h (dv := []) df_Term (fun p => by kernel_rfl) .nil rfl) (fun X ok hcs hn => (ss_Term h X ok hcs hn).h) ok⟩
theorem keep_Term {W : Wd} (h : Is W) : keepIn W.K (.ref 127) = true := by rw [h.K]; exact (show ∀ p, keepIn (hd.heap_1 p) (.ref 127) = true from fun p => by kernel_rfl) _

noncomputable def wNonterm : ST := (sSeq (sRet (eCmp .GtE (eNm 0) (eInt 256))) sPass)
noncomputable def fNonterm : FW := defW (inits 1 [] 0) wNonterm
theorem ss_Nonterm {W : Wd} (h : Is W) (X : Fx) (ok : X.Ok W 0) (hcs : X.cs = scopeOf W.w.params 134) (hn : X.names = (["x"] : List Str) ++ ([] : List Str)) : TB W X (bodyOf W.w.params 134) wNonterm := by
  obtain ⟨A₀, base, outer, h₀, L, cn, cs, a, ccd, names, os, clx⟩ := X
  obtain rfl : cs = _ := hcs
  obtain rfl : names = _ := hn
  unfold wNonterm
  refine tb_cons ?_ ?_
  · refine t1_ret ?_
    · refine te_cmp ok ?_ ?_ rfl
      · exact te_nm ok _ 0 rfl
      · exact te_const ok (g_K h k_nt (by kernel_rfl) (by rfl))
  · exact tb_nil
theorem df_Nonterm : DefFacts 134 "ISNONTERMINAL" ["x"] [] 1 [] := ⟨fun p => by kernel_rfl, fun p => by kernel_rfl, fun p => by kernel_rfl, fun p S vs' hl => by match vs', hl with | [a], _ => kernel_rfl, fun p => by kernel_rfl, fun p => by kernel_rfl, fun p => by kernel_rfl, fun p => by kernel_rfl, by decide +kernel⟩
theorem of_Nonterm {W : Wd} (h : Is W) {X : Fx} (ok : X.Ok W 1) : TO W X (.ref 134) fNonterm := ⟨opf_def (mkDef h (dv := []) df_Nonterm (fun p => by kernel_rfl) .nil rfl) (fun X ok hcs hn => (ss_Nonterm h X ok hcs hn).h) ok⟩
theorem keep_Nonterm {W : Wd} (h : Is W) : keepIn W.K (.ref 134) = true := by rw [h.K]; exact (show ∀ p, keepIn (hd.heap_1 p) (.ref 134) = true from fun p => by kernel_rfl) _

noncomputable def wEof : ST := (sSeq (sRet (eCmp .Eq (eNm 0) (eInt 0))) sPass)
noncomputable def fEof : FW := defW (inits 1 [] 0) wEof
theorem ss_Eof {W : Wd} (h : Is W) (X : Fx) (ok : X.Ok W 0) (hcs : X.cs = scopeOf W.w.params 141) (hn : X.names = (["x"] : List Str) ++ ([] : List Str)) : TB W X (bodyOf W.w.params 141) wEof := by
  obtain ⟨A₀, base, outer, h₀, L, cn, cs, a, ccd, names, os, clx⟩ := X
  obtain rfl : cs = _ := hcs
  obtain rfl : names = _ := hn
  unfold wEof
  refine tb_cons ?_ ?_
  · refine t1_ret ?_
    · refine te_cmp ok ?_ ?_ rfl
      · exact te_nm ok _ 0 rfl
      · exact te_const ok (g_K h k_end (by kernel_rfl) (by rfl))
  · exact tb_nil
theorem df_Eof : DefFacts 141 "ISEOF" ["x"] [] 1 [] := ⟨fun p => by kernel_rfl, fun p => by kernel_rfl, fun p => by kernel_rfl, fun p S vs' hl => by match vs', hl with | [a], _ => kernel_rfl, fun p => by kernel_rfl, fun p => by kernel_rfl, fun p => by kernel_rfl, fun p => by kernel_rfl, by decide +kernel⟩
theorem of_Eof {W : Wd} (h : Is W) {X : Fx} (ok : X.Ok W 1) : TO W X (.ref 141) fEof := ⟨opf_def (mkDef h (dv := []) df_Eof (fun p => by kernel_rfl) .nil rfl) (fun X ok hcs hn => (ss_Eof h X ok hcs hn).h) ok⟩
theorem keep_Eof {W : Wd} (h : Is W) : keepIn W.K (.ref 141) = true := by rw [h.K]; exact (show ∀ p, keepIn (hd.heap_1 p) (.ref 141) = true from fun p => by kernel_rfl) _

noncomputable def wStrip_b0 : ST := (sSeq (sIf (bCmp .Eq (eNm 5) (eStr [34])) (sSeq (sIf (bCmp .Is (eNm 2) eNone) (sSeq (sAsg 2 (eNm 4)) sPass) (sSeq (sIf (bCmp .NotEq (eNm 1) (eNm 2)) (sSeq (sExp (eMeth isListV mAppend (eNm 3) (esCons (eSlc (eNm 0) (some (eNm 1)) (some (eNm 2))) esNil))) sPass) sPass) (sSeq (sAsg 1 (eBin .Add (eNm 4) (eInt 1))) (sSeq (sAsg 2 eNone) sPass)))) sPass) sPass) sPass)
noncomputable def wStrip : ST := (sSeq (sIf (bCmp .NotIn (eStr [34]) (eNm 0)) (sSeq (sRet (eNm 0)) sPass) sPass) (sSeq (sAsg 1 (eInt 0)) (sSeq (sAsg 2 eNone) (sSeq (sAsg 3 (eList esNil)) (sSeq (sForG (eNm 0) (tPair 4 5) wStrip_b0) (sSeq (sIf (bCmp .Lt (eNm 1) (eApp bLen (esCons (eNm 0) esNil))) (sSeq (sExp (eMeth isListV mAppend (eNm 3) (esCons (eSlc (eNm 0) (some (eNm 1)) none) esNil))) sPass) sPass) (sSeq (sRet (eMeth isStrV mJoin0 (eStr []) (esCons (eNm 3) esNil))) sPass)))))))
noncomputable def fStrip : FW := defW (inits 1 [] 5) wStrip
theorem ss_Strip {W : Wd} (h : Is W) (X : Fx) (ok : X.Ok W 1) (hcs : X.cs = scopeOf W.w.params 44) (hn : X.names = (["addr"] : List Str) ++ (["start", "open_pos", "result", "pos", "ch"] : List Str)) : TB W X (bodyOf W.w.params 44) wStrip := by
  obtain ⟨A₀, base, outer, h₀, L, cn, cs, a, ccd, names, os, clx⟩ := X
  obtain rfl : cs = _ := hcs
  obtain rfl : names = _ := hn
  unfold wStrip
  refine tb_cons ?_ ?_
  · refine t1_if ?_ ?_ ?_
    · refine tt_cmp ok ?_ ?_ rfl
      · exact te_str (by kernel_rfl) _ _
      · exact te_nm ok _ 0 rfl
    · refine tb_cons ?_ ?_
      · refine t1_ret ?_
        · exact te_nm ok _ 0 rfl
      · exact tb_nil
    · exact tb_nil
  · refine tb_cons ?_ ?_
    · refine t1_asg ok rfl ?_ rfl
      · exact te_int _ _ _
    · refine tb_cons ?_ ?_
      · refine t1_asg ok rfl ?_ rfl
        · exact te_none _ _
      · refine tb_cons ?_ ?_
        · refine t1_asg ok rfl ?_ rfl
          · refine te_list ?_
            · exact ta_nil
        · refine tb_cons ?_ ?_
          · refine t1_forG h ok (g_K h k_esc (by kernel_rfl) (by rfl)) ⟨rfl, rfl⟩ ?_ (ty_pair ok rfl rfl) ?_ (fun _ => rfl)
            · exact te_nm ok _ 0 rfl
            · refine tb_cons ?_ ?_
              · refine t1_if ?_ ?_ ?_
                · refine tt_cmp ok ?_ ?_ rfl
                  · exact te_nm ok _ 5 rfl
                  · exact te_str (by kernel_rfl) _ _
                · refine tb_cons ?_ ?_
                  · refine t1_if ?_ ?_ ?_
                    · refine tt_cmp ok ?_ ?_ rfl
                      · exact te_nm ok _ 2 rfl
                      · exact te_none _ _
                    · refine tb_cons ?_ ?_
                      · refine t1_asg ok rfl ?_ rfl
                        · exact te_nm ok _ 4 rfl
                      · exact tb_nil
                    · refine tb_cons ?_ ?_
                      · refine t1_if ?_ ?_ ?_
                        · refine tt_cmp ok ?_ ?_ rfl
                          · exact te_nm ok _ 1 rfl
                          · exact te_nm ok _ 2 rfl
                        · refine tb_cons ?_ ?_
                          · refine t1_exp ?_ rfl rfl
                            · refine te_meth ok ?_ ?_ tm_append (fun _ => rfl) rfl rfl
                              · exact te_nm ok _ 3 rfl
                              · refine tg_cons ⟨rfl, rfl⟩ ?_
                                refine ta_cons ?_ ?_ rfl
                                · refine te_slc ?_ ?_ ?_
                                  · exact te_nm ok _ 0 rfl
                                  · refine tp_some ?_
                                    exact te_nm ok _ 1 rfl
                                  · refine tp_some ?_
                                    exact te_nm ok _ 2 rfl
                                · exact ta_nil
                          · exact tb_nil
                        · exact tb_nil
                      · refine tb_cons ?_ ?_
                        · refine t1_asg ok rfl ?_ rfl
                          · refine te_bin ?_ ?_
                            · exact te_nm ok _ 4 rfl
                            · exact te_int _ _ _
                        · refine tb_cons ?_ ?_
                          · refine t1_asg ok rfl ?_ rfl
                            · exact te_none _ _
                          · exact tb_nil
                  · exact tb_nil
                · exact tb_nil
              · exact tb_nil
          · refine tb_cons ?_ ?_
            · refine t1_if ?_ ?_ ?_
              · refine tt_cmp ok ?_ ?_ rfl
                · exact te_nm ok _ 1 rfl
                · refine te_app ok (g_B h n_len b_len (by decide) (by kernel_rfl) (by rfl)) (.builtin _) (to_len) ?_
                  · refine tg_cons ⟨rfl, rfl⟩ ?_
                    refine ta_cons ?_ ?_ rfl
                    · exact te_nm ok _ 0 rfl
                    · exact ta_nil
              · refine tb_cons ?_ ?_
                · refine t1_exp ?_ rfl rfl
                  · refine te_meth ok ?_ ?_ tm_append (fun _ => rfl) rfl rfl
                    · exact te_nm ok _ 3 rfl
                    · refine tg_cons ⟨rfl, rfl⟩ ?_
                      refine ta_cons ?_ ?_ rfl
                      · refine te_slc ?_ ?_ ?_
                        · exact te_nm ok _ 0 rfl
                        · refine tp_some ?_
                          exact te_nm ok _ 1 rfl
                        · exact tp_none
                      · exact ta_nil
                · exact tb_nil
              · exact tb_nil
            · refine tb_cons ?_ ?_
              · refine t1_ret ?_
                · refine te_meth ok ?_ ?_ tm_join (fun _ => rfl) rfl rfl
                  · exact te_str (by kernel_rfl) _ _
                  · refine tg_cons ⟨rfl, rfl⟩ ?_
                    refine ta_cons ?_ ?_ rfl
                    · exact te_nm ok _ 3 rfl
                    · exact ta_nil
              · exact tb_nil
theorem df_Strip : DefFacts 44 "_strip_quoted_realnames" ["addr"] ["start", "open_pos", "result", "pos", "ch"] 1 [] := ⟨fun p => by kernel_rfl, fun p => by kernel_rfl, fun p => by kernel_rfl, fun p S vs' hl => by match vs', hl with | [a], _ => kernel_rfl, fun p => by kernel_rfl, fun p => by kernel_rfl, fun p => by kernel_rfl, fun p => by kernel_rfl, by decide +kernel⟩
theorem of_Strip {W : Wd} (h : Is W) {X : Fx} (ok : X.Ok W 2) : TO W X (.ref 44) fStrip := ⟨opf_def (mkDef h (dv := []) df_Strip (fun p => by kernel_rfl) .nil rfl) (fun X ok hcs hn => (ss_Strip h X ok hcs hn).h) ok⟩
theorem keep_Strip {W : Wd} (h : Is W) : keepIn W.K (.ref 44) = true := by rw [h.K]; exact (show ∀ p, keepIn (hd.heap_1 p) (.ref 44) = true from fun p => by kernel_rfl) _

noncomputable def wCheck_b0 : ST := (sSeq (sIf (bCmp .Eq (eNm 3) (eStr [40])) (sSeq (sAug 1 .Add (eInt 1)) sPass) (sSeq (sIf (bCmp .Eq (eNm 3) (eStr [41])) (sSeq (sAug 1 .Sub (eInt 1)) (sSeq (sIf (bCmp .Lt (eNm 1) (eInt 0)) (sSeq (sRet (eBool false)) sPass) sPass) sPass)) sPass) sPass)) sPass)
noncomputable def wCheck : ST := (sSeq (sAsg 0 (eApp fStrip (esCons (eNm 0) esNil))) (sSeq (sAsg 1 (eInt 0)) (sSeq (sForG (eNm 0) (tPair 2 3) wCheck_b0) (sSeq (sRet (eCmp .Eq (eNm 1) (eInt 0))) sPass))))
noncomputable def fCheck : FW := defW (inits 1 [] 3) wCheck
theorem ss_Check {W : Wd} (h : Is W) (X : Fx) (ok : X.Ok W 2) (hcs : X.cs = scopeOf W.w.params 51) (hn : X.names = (["addr"] : List Str) ++ (["opens", "pos", "ch"] : List Str)) : TB W X (bodyOf W.w.params 51) wCheck := by
  obtain ⟨A₀, base, outer, h₀, L, cn, cs, a, ccd, names, os, clx⟩ := X
  obtain rfl : cs = _ := hcs
  obtain rfl : names = _ := hn
  unfold wCheck
  refine tb_cons ?_ ?_
  · refine t1_asg ok rfl ?_ rfl
    · refine te_app ok (g_K h k_strip (by kernel_rfl) (by rfl)) (.fn _ (keep_Strip h)) (of_Strip h (ok.mono (by decide))) ?_
      · refine tg_cons ⟨rfl, rfl⟩ ?_
        refine ta_cons ?_ ?_ rfl
        · exact te_nm ok _ 0 rfl
        · exact ta_nil
  · refine tb_cons ?_ ?_
    · refine t1_asg ok rfl ?_ rfl
      · exact te_int _ _ _
    · refine tb_cons ?_ ?_
      · refine t1_forG h ok (g_K h k_esc (by kernel_rfl) (by rfl)) ⟨rfl, rfl⟩ ?_ (ty_pair ok rfl rfl) ?_ (fun _ => rfl)
        · exact te_nm ok _ 0 rfl
        · refine tb_cons ?_ ?_
          · refine t1_if ?_ ?_ ?_
            · refine tt_cmp ok ?_ ?_ rfl
              · exact te_nm ok _ 3 rfl
              · exact te_str (by kernel_rfl) _ _
            · refine tb_cons ?_ ?_
              · refine t1_aug ok rfl ?_
                · exact te_int _ _ _
              · exact tb_nil
            · refine tb_cons ?_ ?_
              · refine t1_if ?_ ?_ ?_
                · refine tt_cmp ok ?_ ?_ rfl
                  · exact te_nm ok _ 3 rfl
                  · exact te_str (by kernel_rfl) _ _
                · refine tb_cons ?_ ?_
                  · refine t1_aug ok rfl ?_
                    · exact te_int _ _ _
                  · refine tb_cons ?_ ?_
                    · refine t1_if ?_ ?_ ?_
                      · refine tt_cmp ok ?_ ?_ rfl
                        · exact te_nm ok _ 1 rfl
                        · exact te_int _ _ _
                      · refine tb_cons ?_ ?_
                        · refine t1_ret ?_
                          · exact te_bool _ _ _
                        · exact tb_nil
                      · exact tb_nil
                    · exact tb_nil
                · exact tb_nil
              · exact tb_nil
          · exact tb_nil
      · refine tb_cons ?_ ?_
        · refine t1_ret ?_
          · refine te_cmp ok ?_ ?_ rfl
            · exact te_nm ok _ 1 rfl
            · exact te_int _ _ _
        · exact tb_nil
theorem df_Check : DefFacts 51 "_check_parenthesis" ["addr"] ["opens", "pos", "ch"] 1 [] := ⟨fun p => by kernel_rfl, fun p => by kernel_rfl, fun p => by kernel_rfl, fun p S vs' hl => by match vs', hl with | [a], _ => kernel_rfl, fun p => by kernel_rfl, fun p => by kernel_rfl, fun p => by kernel_rfl, fun p => by kernel_rfl, by decide +kernel⟩
theorem of_Check {W : Wd} (h : Is W) {X : Fx} (ok : X.Ok W 3) : TO W X (.ref 51) fCheck := ⟨opf_def (mkDef h (dv := []) df_Check (fun p => by kernel_rfl) .nil rfl) (fun X ok hcs hn => (ss_Check h X ok hcs hn).h) ok⟩
theorem keep_Check {W : Wd} (h : Is W) : keepIn W.K (.ref 51) = true := by rw [h.K]; exact (show ∀ p, keepIn (hd.heap_1 p) (.ref 51) = true from fun p => by kernel_rfl) _

noncomputable def wLongest : ST := (sSeq (sTgt (tPair 1 2) (eAttr 3 (eNm 0))) (sSeq (sRet (eApp bMax (esCons (eBin .Sub (eApp bLen (esCons (eNm 1) esNil)) (eInt 1)) (esCons (eNm 2) esNil)))) sPass))
noncomputable def fLongest : FW := defW (inits 1 [] 2) wLongest
theorem ss_Longest {W : Wd} (h : Is W) (X : Fx) (ok : X.Ok W 0) (hcs : X.cs = scopeOf W.w.params 75) (hn : X.names = (["self"] : List Str) ++ (["count", "trailing"] : List Str)) : TB W X (bodyOf W.w.params 75) wLongest := by
  obtain ⟨A₀, base, outer, h₀, L, cn, cs, a, ccd, names, os, clx⟩ := X
  obtain rfl : cs = _ := hcs
  obtain rfl : names = _ := hn
  unfold wLongest
  refine tb_cons ?_ ?_
  · refine t1_pair ?_ (ty_pair ok rfl rfl) rfl rfl
    · refine te_attr ok (i := 3) ?_ rfl (at_norm h) (fun _ => rfl)
      · exact te_nm ok _ 0 rfl
  · refine tb_cons ?_ ?_
    · refine t1_ret ?_
      · refine te_app ok (g_B h n_max b_max (by decide) (by kernel_rfl) (by rfl)) (.builtin _) (to_max ok) ?_
        · refine tg_cons ⟨rfl, rfl⟩ ?_
          refine ta_cons ?_ ?_ rfl
          · refine te_bin ?_ ?_
            · refine te_app ok (g_B h n_len b_len (by decide) (by kernel_rfl) (by rfl)) (.builtin _) (to_len) ?_
              · refine tg_cons ⟨rfl, rfl⟩ ?_
                refine ta_cons ?_ ?_ rfl
                · exact te_nm ok _ 1 rfl
                · exact ta_nil
            · exact te_int _ _ _
          · refine ta_cons ?_ ?_ rfl
            · exact te_nm ok _ 2 rfl
            · exact ta_nil
    · exact tb_nil
theorem df_Longest : DefFacts 75 "Whitespace.longest_run_of_spaces" ["self"] ["count", "trailing"] 1 [] := ⟨fun p => by kernel_rfl, fun p => by kernel_rfl, fun p => by kernel_rfl, fun p S vs' hl => by match vs', hl with | [a], _ => kernel_rfl, fun p => by kernel_rfl, fun p => by kernel_rfl, fun p => by kernel_rfl, fun p => by kernel_rfl, by decide +kernel⟩
theorem of_Longest {W : Wd} (h : Is W) {X : Fx} (ok : X.Ok W 1) : TO W X (.ref 75) fLongest := ⟨opf_def (mkDef h (dv := []) df_Longest (fun p => by kernel_rfl) .nil rfl) (fun X ok hcs hn => (ss_Longest h X ok hcs hn).h) ok⟩
theorem keep_Longest {W : Wd} (h : Is W) : keepIn W.K (.ref 75) = true := by rw [h.K]; exact (show ∀ p, keepIn (hd.heap_1 p) (.ref 75) = true from fun p => by kernel_rfl) _

noncomputable def wIndent_b0 : ST := (sSeq (sAsg 4 (eBin .Add (eNm 4) (eBin .Mult (eBin .FloorDiv (eNm 5) (eNm 1)) (eIdx (eNm 2) (eNm 5))))) sPass)
noncomputable def wIndent : ST := (sSeq (sTgt (tPair 2 3) (eAttr 3 (eNm 0))) (sSeq (sAsg 4 (eInt 0)) (sSeq (sForR (eApp bRange (esCons (eNm 1) (esCons (eApp bLen (esCons (eNm 2) esNil)) esNil))) (tNm 5) wIndent_b0) (sSeq (sRet (eBin .Add (eNm 3) (eBin .Mult (eNm 1) (eBin .Add (eNm 4) (eAttr 2 (eNm 0)))))) sPass))))
noncomputable def fIndent : FW := defW (inits 2 [] 4) wIndent
theorem ss_Indent {W : Wd} (h : Is W) (X : Fx) (ok : X.Ok W 0) (hcs : X.cs = scopeOf W.w.params 82) (hn : X.names = (["self", "tabsize"] : List Str) ++ (["count", "trailing", "il", "i"] : List Str)) : TB W X (bodyOf W.w.params 82) wIndent := by
  obtain ⟨A₀, base, outer, h₀, L, cn, cs, a, ccd, names, os, clx⟩ := X
  obtain rfl : cs = _ := hcs
  obtain rfl : names = _ := hn
  unfold wIndent
  refine tb_cons ?_ ?_
  · refine t1_pair ?_ (ty_pair ok rfl rfl) rfl rfl
    · refine te_attr ok (i := 3) ?_ rfl (at_norm h) (fun _ => rfl)
      · exact te_nm ok _ 0 rfl
  · refine tb_cons ?_ ?_
    · refine t1_asg ok rfl ?_ rfl
      · exact te_int _ _ _
    · refine tb_cons ?_ ?_
      · refine t1_forR ok ?_ (ty_nm ok rfl) ?_ (fun _ => rfl)
        · refine te_app ok (g_B h n_range b_range (by decide) (by kernel_rfl) (by rfl)) (.type _) (to_range) ?_
          · refine tg_cons ⟨rfl, rfl⟩ ?_
            refine ta_cons ?_ ?_ rfl
            · exact te_nm ok _ 1 rfl
            · refine ta_cons ?_ ?_ rfl
              · refine te_app ok (g_B h n_len b_len (by decide) (by kernel_rfl) (by rfl)) (.builtin _) (to_len) ?_
                · refine tg_cons ⟨rfl, rfl⟩ ?_
                  refine ta_cons ?_ ?_ rfl
                  · exact te_nm ok _ 2 rfl
                  · exact ta_nil
              · exact ta_nil
        · refine tb_cons ?_ ?_
          · refine t1_asg ok rfl ?_ rfl
            · refine te_bin ?_ ?_
              · exact te_nm ok _ 4 rfl
              · refine te_bin ?_ ?_
                · refine te_bin ?_ ?_
                  · exact te_nm ok _ 5 rfl
                  · exact te_nm ok _ 1 rfl
                · refine te_idx ?_ ?_ (fun _ _ => rfl)
                  · exact te_nm ok _ 2 rfl
                  · exact te_nm ok _ 5 rfl
          · exact tb_nil
      · refine tb_cons ?_ ?_
        · refine t1_ret ?_
          · refine te_bin ?_ ?_
            · exact te_nm ok _ 3 rfl
            · refine te_bin ?_ ?_
              · exact te_nm ok _ 1 rfl
              · refine te_bin ?_ ?_
                · exact te_nm ok _ 4 rfl
                · refine te_attr ok (i := 2) ?_ rfl (at_nt h) (fun _ => rfl)
                  · exact te_nm ok _ 0 rfl
        · exact tb_nil
theorem df_Indent : DefFacts 82 "Whitespace.indent_level" ["self", "tabsize"] ["count", "trailing", "il", "i"] 2 [] := ⟨fun p => by kernel_rfl, fun p => by kernel_rfl, fun p => by kernel_rfl, fun p S vs' hl => by match vs', hl with | [a, b], _ => kernel_rfl, fun p => by kernel_rfl, fun p => by kernel_rfl, fun p => by kernel_rfl, fun p => by kernel_rfl, by decide +kernel⟩
theorem of_Indent {W : Wd} (h : Is W) {X : Fx} (ok : X.Ok W 1) : TO W X (.ref 82) fIndent := ⟨opf_def (mkDef h (dv := []) df_Indent (fun p => by kernel_rfl) .nil rfl) (fun X ok hcs hn => (ss_Indent h X ok hcs hn).h) ok⟩
theorem keep_Indent {W : Wd} (h : Is W) : keepIn W.K (.ref 82) = true := by rw [h.K]; exact (show ∀ p, keepIn (hd.heap_1 p) (.ref 82) = true from fun p => by kernel_rfl) _

noncomputable def wEqual : ST := (sSeq (sRet (eCmp .Eq (eAttr 3 (eNm 0)) (eAttr 3 (eNm 1)))) sPass)
noncomputable def fEqual : FW := defW (inits 2 [] 0) wEqual
theorem ss_Equal {W : Wd} (h : Is W) (X : Fx) (ok : X.Ok W 0) (hcs : X.cs = scopeOf W.w.params 89) (hn : X.names = (["self", "other"] : List Str) ++ ([] : List Str)) : TB W X (bodyOf W.w.params 89) wEqual := by
  obtain ⟨A₀, base, outer, h₀, L, cn, cs, a, ccd, names, os, clx⟩ := X
  obtain rfl : cs = _ := hcs
  obtain rfl : names = _ := hn
  unfold wEqual
  refine tb_cons ?_ ?_
  · refine t1_ret ?_
    · refine te_cmp ok ?_ ?_ rfl
      · refine te_attr ok (i := 3) ?_ rfl (at_norm h) (fun _ => rfl)
        · exact te_nm ok _ 0 rfl
      · refine te_attr ok (i := 3) ?_ rfl (at_norm h) (fun _ => rfl)
        · exact te_nm ok _ 1 rfl
  · exact tb_nil
theorem df_Equal : DefFacts 89 "Whitespace.equal" ["self", "other"] [] 2 [] := ⟨fun p => by kernel_rfl, fun p => by kernel_rfl, fun p => by kernel_rfl, fun p S vs' hl => by match vs', hl with | [a, b], _ => kernel_rfl, fun p => by kernel_rfl, fun p => by kernel_rfl, fun p => by kernel_rfl, fun p => by kernel_rfl, by decide +kernel⟩
theorem of_Equal {W : Wd} (h : Is W) {X : Fx} (ok : X.Ok W 1) : TO W X (.ref 89) fEqual := ⟨opf_def (mkDef h (dv := []) df_Equal (fun p => by kernel_rfl) .nil rfl) (fun X ok hcs hn => (ss_Equal h X ok hcs hn).h) ok⟩
theorem keep_Equal {W : Wd} (h : Is W) : keepIn W.K (.ref 89) = true := by rw [h.K]; exact (show ∀ p, keepIn (hd.heap_1 p) (.ref 89) = true from fun p => by kernel_rfl) _

noncomputable def wLess_b0 : ST := (sSeq (sIf (bCmp .GtE (eMeth isInstV fIndent (eNm 0) (esCons (eNm 3) esNil)) (eMeth isInstV fIndent (eNm 1) (esCons (eNm 3) esNil))) (sSeq (sRet (eBool false)) sPass) sPass) sPass)
noncomputable def wLess : ST := (sSeq (sIf (bCmp .GtE (eAttr 1 (eNm 0)) (eAttr 1 (eNm 1))) (sSeq (sRet (eBool false)) sPass) sPass) (sSeq (sIf (bAnd (bVal (eAttr 4 (eNm 0))) (bAnd (bVal (eAttr 4 (eNm 1))) bTrue)) (sSeq (sRet (eCmp .LtE (eAttr 2 (eNm 0)) (eAttr 2 (eNm 1)))) sPass) sPass) (sSeq (sAsg 2 (eBin .Add (eApp bMax (esCons (eMeth isInstV fLongest (eNm 0) esNil) (esCons (eMeth isInstV fLongest (eNm 1) esNil) esNil))) (eInt 1))) (sSeq (sForR (eApp bRange (esCons (eInt 2) (esCons (eBin .Add (eNm 2) (eInt 1)) esNil))) (tNm 3) wLess_b0) (sSeq (sRet (eBool true)) sPass)))))
noncomputable def fLess : FW := defW (inits 2 [] 2) wLess
theorem ss_Less {W : Wd} (h : Is W) (X : Fx) (ok : X.Ok W 1) (hcs : X.cs = scopeOf W.w.params 103) (hn : X.names = (["self", "other"] : List Str) ++ (["n", "ts"] : List Str)) : TB W X (bodyOf W.w.params 103) wLess := by
  obtain ⟨A₀, base, outer, h₀, L, cn, cs, a, ccd, names, os, clx⟩ := X
  obtain rfl : cs = _ := hcs
  obtain rfl : names = _ := hn
  unfold wLess
  refine tb_cons ?_ ?_
  · refine t1_if ?_ ?_ ?_
    · refine tt_cmp ok ?_ ?_ rfl
      · refine te_attr ok (i := 1) ?_ rfl (at_n h) (fun _ => rfl)
        · exact te_nm ok _ 0 rfl
      · refine te_attr ok (i := 1) ?_ rfl (at_n h) (fun _ => rfl)
        · exact te_nm ok _ 1 rfl
    · refine tb_cons ?_ ?_
      · refine t1_ret ?_
        · exact te_bool _ _ _
      · exact tb_nil
    · exact tb_nil
  · refine tb_cons ?_ ?_
    · refine t1_if ?_ ?_ ?_
      · refine tt_and ?_ ?_
        · refine tt_val ?_ (fun _ => rfl)
          · refine te_attr ok (i := 4) ?_ rfl (at_is_simple h) (fun _ => rfl)
            · exact te_nm ok _ 0 rfl
        · refine tt_and ?_ ?_
          · refine tt_val ?_ (fun _ => rfl)
            · refine te_attr ok (i := 4) ?_ rfl (at_is_simple h) (fun _ => rfl)
              · exact te_nm ok _ 1 rfl
          · exact tt_nil
      · refine tb_cons ?_ ?_
        · refine t1_ret ?_
          · refine te_cmp ok ?_ ?_ rfl
            · refine te_attr ok (i := 2) ?_ rfl (at_nt h) (fun _ => rfl)
              · exact te_nm ok _ 0 rfl
            · refine te_attr ok (i := 2) ?_ rfl (at_nt h) (fun _ => rfl)
              · exact te_nm ok _ 1 rfl
        · exact tb_nil
      · exact tb_nil
    · refine tb_cons ?_ ?_
      · refine t1_asg ok rfl ?_ rfl
        · refine te_bin ?_ ?_
          · refine te_app ok (g_B h n_max b_max (by decide) (by kernel_rfl) (by rfl)) (.builtin _) (to_max ok) ?_
            · refine tg_cons ⟨rfl, rfl⟩ ?_
              refine ta_cons ?_ ?_ rfl
              · refine te_meth ok ?_ ?_ (tm_inst ok (im_Longest h) (of_Longest h (ok.mono (by decide)))) (fun _ => rfl) rfl rfl
                · exact te_nm ok _ 0 rfl
                · exact tg_nil
              · refine ta_cons ?_ ?_ rfl
                · refine te_meth ok ?_ ?_ (tm_inst ok (im_Longest h) (of_Longest h (ok.mono (by decide)))) (fun _ => rfl) rfl rfl
                  · exact te_nm ok _ 1 rfl
                  · exact tg_nil
                · exact ta_nil
          · exact te_int _ _ _
      · refine tb_cons ?_ ?_
        · refine t1_forR ok ?_ (ty_nm ok rfl) ?_ (fun _ => rfl)
          · refine te_app ok (g_B h n_range b_range (by decide) (by kernel_rfl) (by rfl)) (.type _) (to_range) ?_
            · refine tg_cons ⟨rfl, rfl⟩ ?_
              refine ta_cons ?_ ?_ rfl
              · exact te_int _ _ _
              · refine ta_cons ?_ ?_ rfl
                · refine te_bin ?_ ?_
                  · exact te_nm ok _ 2 rfl
                  · exact te_int _ _ _
                · exact ta_nil
          · refine tb_cons ?_ ?_
            · refine t1_if ?_ ?_ ?_
              · refine tt_cmp ok ?_ ?_ rfl
                · refine te_meth ok ?_ ?_ (tm_inst ok (im_Indent h) (of_Indent h (ok.mono (by decide)))) (fun _ => rfl) rfl rfl
                  · exact te_nm ok _ 0 rfl
                  · refine tg_cons ⟨rfl, rfl⟩ ?_
                    refine ta_cons ?_ ?_ rfl
                    · exact te_nm ok _ 3 rfl
                    · exact ta_nil
                · refine te_meth ok ?_ ?_ (tm_inst ok (im_Indent h) (of_Indent h (ok.mono (by decide)))) (fun _ => rfl) rfl rfl
                  · exact te_nm ok _ 1 rfl
                  · refine tg_cons ⟨rfl, rfl⟩ ?_
                    refine ta_cons ?_ ?_ rfl
                    · exact te_nm ok _ 3 rfl
                    · exact ta_nil
              · refine tb_cons ?_ ?_
                · refine t1_ret ?_
                  · exact te_bool _ _ _
                · exact tb_nil
              · exact tb_nil
            · exact tb_nil
        · refine tb_cons ?_ ?_
          · refine t1_ret ?_
            · exact te_bool _ _ _
          · exact tb_nil
theorem df_Less : DefFacts 103 "Whitespace.less" ["self", "other"] ["n", "ts"] 2 [] := ⟨fun p => by kernel_rfl, fun p => by kernel_rfl, fun p => by kernel_rfl, fun p S vs' hl => by match vs', hl with | [a, b], _ => kernel_rfl, fun p => by kernel_rfl, fun p => by kernel_rfl, fun p => by kernel_rfl, fun p => by kernel_rfl, by decide +kernel⟩
theorem of_Less {W : Wd} (h : Is W) {X : Fx} (ok : X.Ok W 2) : TO W X (.ref 103) fLess := ⟨opf_def (mkDef h (dv := []) df_Less (fun p => by kernel_rfl) .nil rfl) (fun X ok hcs hn => (ss_Less h X ok hcs hn).h) ok⟩
theorem keep_Less {W : Wd} (h : Is W) : keepIn W.K (.ref 103) = true := by rw [h.K]; exact (show ∀ p, keepIn (hd.heap_1 p) (.ref 103) = true from fun p => by kernel_rfl) _

noncomputable def wInit_b0 : ST := (sSeq (sIf (bCmp .Eq (eNm 8) (eNm 2)) (sSeq (sAsg 6 (eBin .Add (eNm 6) (eInt 1))) (sSeq (sAsg 5 (eBin .Add (eNm 5) (eInt 1))) sPass)) (sSeq (sIf (bCmp .Eq (eNm 8) (eNm 3)) (sSeq (sAsg 6 (eBin .Add (eNm 6) (eInt 1))) (sSeq (sAsg 7 (eBin .Add (eNm 7) (eInt 1))) (sSeq (sIf (bCmp .GtE (eNm 5) (eApp bLen (esCons (eNm 4) esNil))) (sSeq (sAsg 4 (eBin .Add (eNm 4) (eBin .Mult (eList (esCons (eInt 0) esNil)) (eBin .Add (eBin .Sub (eNm 5) (eApp bLen (esCons (eNm 4) esNil))) (eInt 1))))) sPass) sPass) (sSeq (sPut (eBin .Add (eIdx (eNm 4) (eNm 5)) (eInt 1)) (eNm 4) (eNm 5)) (sSeq (sAsg 5 (eInt 0)) sPass))))) (sSeq sBrk sPass)) sPass)) sPass)
noncomputable def wInit : ST := (sSeq (sAttr 0 (eNm 1) (eNm 0)) (sSeq (sTgt (tSwap 2 3) (eTup (esCons (eStr [32]) (esCons (eStr [9]) esNil)))) (sSeq (sAsg 4 (eList esNil)) (sSeq (sAsg3 5 6 7 (eInt 0)) (sSeq (sForS (eAttr 0 (eNm 0)) (tNm 8) wInit_b0) (sSeq (sAttr 1 (eNm 6) (eNm 0)) (sSeq (sAttr 2 (eNm 7) (eNm 0)) (sSeq (sAttr 3 (eTup (esCons (eApp bTuple (esCons (eNm 4) esNil)) (esCons (eNm 5) esNil))) (eNm 0)) (sSeq (sAttr 4 (eCmp .LtE (eApp bLen (esCons (eNm 4) esNil)) (eInt 1)) (eNm 0)) sPass)))))))))
noncomputable def fInit : FW := defW (inits 2 [] 7) wInit
theorem ss_Init {W : Wd} (h : Is W) (X : Fx) (ok : X.Ok W 0) (hcs : X.cs = scopeOf W.w.params 68) (hn : X.names = (["self", "ws"] : List Str) ++ (["S", "T", "count", "b", "n", "nt", "ch"] : List Str)) : TB W X (bodyOf W.w.params 68) wInit := by
  obtain ⟨A₀, base, outer, h₀, L, cn, cs, a, ccd, names, os, clx⟩ := X
  obtain rfl : cs = _ := hcs
  obtain rfl : names = _ := hn
  unfold wInit
  refine tb_cons ?_ ?_
  · refine t1_attr ok ?_ ?_ (i := 0) rfl (at_raw h) rfl
    · exact te_nm ok _ 0 rfl
    · exact te_nm ok _ 1 rfl
  · refine tb_cons ?_ ?_
    · refine t1_swap ok rfl rfl ?_ rfl (by with_unfolding_all rfl)
      · refine te_tup ?_
        · refine ta_cons ?_ ?_ rfl
          · exact te_cls ok (by rw [h.C]; exact g_K h k_ws (by kernel_rfl) (by rfl)) (cv_S h) (by kernel_rfl) 
          · refine ta_cons ?_ ?_ rfl
            · exact te_cls ok (by rw [h.C]; exact g_K h k_ws (by kernel_rfl) (by rfl)) (cv_T h) (by kernel_rfl) 
            · exact ta_nil
    · refine tb_cons ?_ ?_
      · refine t1_asg ok rfl ?_ rfl
        · refine te_list ?_
          · exact ta_nil
      · refine tb_cons ?_ ?_
        · refine t1_asg3 ok rfl rfl rfl ?_ rfl
          · exact te_int _ _ _
        · refine tb_cons ?_ ?_
          · refine t1_forS ok ?_ (ty_nm ok rfl) ?_ (fun _ => rfl)
            · refine te_attr ok (i := 0) ?_ rfl (at_raw h) (fun _ => rfl)
              · exact te_nm ok _ 0 rfl
            · refine tb_cons ?_ ?_
              · refine t1_if ?_ ?_ ?_
                · refine tt_cmp ok ?_ ?_ rfl
                  · exact te_nm ok _ 8 rfl
                  · exact te_nm ok _ 2 rfl
                · refine tb_cons ?_ ?_
                  · refine t1_asg ok rfl ?_ rfl
                    · refine te_bin ?_ ?_
                      · exact te_nm ok _ 6 rfl
                      · exact te_int _ _ _
                  · refine tb_cons ?_ ?_
                    · refine t1_asg ok rfl ?_ rfl
                      · refine te_bin ?_ ?_
                        · exact te_nm ok _ 5 rfl
                        · exact te_int _ _ _
                    · exact tb_nil
                · refine tb_cons ?_ ?_
                  · refine t1_if ?_ ?_ ?_
                    · refine tt_cmp ok ?_ ?_ rfl
                      · exact te_nm ok _ 8 rfl
                      · exact te_nm ok _ 3 rfl
                    · refine tb_cons ?_ ?_
                      · refine t1_asg ok rfl ?_ rfl
                        · refine te_bin ?_ ?_
                          · exact te_nm ok _ 6 rfl
                          · exact te_int _ _ _
                      · refine tb_cons ?_ ?_
                        · refine t1_asg ok rfl ?_ rfl
                          · refine te_bin ?_ ?_
                            · exact te_nm ok _ 7 rfl
                            · exact te_int _ _ _
                        · refine tb_cons ?_ ?_
                          · refine t1_if ?_ ?_ ?_
                            · refine tt_cmp ok ?_ ?_ rfl
                              · exact te_nm ok _ 5 rfl
                              · refine te_app ok (g_B h n_len b_len (by decide) (by kernel_rfl) (by rfl)) (.builtin _) (to_len) ?_
                                · refine tg_cons ⟨rfl, rfl⟩ ?_
                                  refine ta_cons ?_ ?_ rfl
                                  · exact te_nm ok _ 4 rfl
                                  · exact ta_nil
                            · refine tb_cons ?_ ?_
                              · refine t1_asg ok rfl ?_ rfl
                                · refine te_bin ?_ ?_
                                  · exact te_nm ok _ 4 rfl
                                  · refine te_bin ?_ ?_
                                    · refine te_list ?_
                                      · refine ta_cons ?_ ?_ rfl
                                        · exact te_int _ _ _
                                        · exact ta_nil
                                    · refine te_bin ?_ ?_
                                      · refine te_bin ?_ ?_
                                        · exact te_nm ok _ 5 rfl
                                        · refine te_app ok (g_B h n_len b_len (by decide) (by kernel_rfl) (by rfl)) (.builtin _) (to_len) ?_
                                          · refine tg_cons ⟨rfl, rfl⟩ ?_
                                            refine ta_cons ?_ ?_ rfl
                                            · exact te_nm ok _ 4 rfl
                                            · exact ta_nil
                                      · exact te_int _ _ _
                              · exact tb_nil
                            · exact tb_nil
                          · refine tb_cons ?_ ?_
                            · refine t1_put ?_ ?_ ?_ rfl
                              · refine te_bin ?_ ?_
                                · refine te_idx ?_ ?_ (fun _ _ => rfl)
                                  · exact te_nm ok _ 4 rfl
                                  · exact te_nm ok _ 5 rfl
                                · exact te_int _ _ _
                              · exact te_nm ok _ 4 rfl
                              · exact te_nm ok _ 5 rfl
                            · refine tb_cons ?_ ?_
                              · refine t1_asg ok rfl ?_ rfl
                                · exact te_int _ _ _
                              · exact tb_nil
                    · refine tb_cons ?_ ?_
                      · exact t1_brk
                      · exact tb_nil
                  · exact tb_nil
              · exact tb_nil
          · refine tb_cons ?_ ?_
            · refine t1_attr ok ?_ ?_ (i := 1) rfl (at_n h) rfl
              · exact te_nm ok _ 0 rfl
              · exact te_nm ok _ 6 rfl
            · refine tb_cons ?_ ?_
              · refine t1_attr ok ?_ ?_ (i := 2) rfl (at_nt h) rfl
                · exact te_nm ok _ 0 rfl
                · exact te_nm ok _ 7 rfl
              · refine tb_cons ?_ ?_
                · refine t1_attr ok ?_ ?_ (i := 3) rfl (at_norm h) rfl
                  · exact te_nm ok _ 0 rfl
                  · refine te_tup ?_
                    · refine ta_cons ?_ ?_ rfl
                      · refine te_app ok (g_B h n_tuple b_tuple (by decide) (by kernel_rfl) (by rfl)) (.type _) (to_tuple) ?_
                        · refine tg_cons ⟨rfl, rfl⟩ ?_
                          refine ta_cons ?_ ?_ rfl
                          · exact te_nm ok _ 4 rfl
                          · exact ta_nil
                      · refine ta_cons ?_ ?_ rfl
                        · exact te_nm ok _ 5 rfl
                        · exact ta_nil
                · refine tb_cons ?_ ?_
                  · refine t1_attr ok ?_ ?_ (i := 4) rfl (at_is_simple h) rfl
                    · exact te_nm ok _ 0 rfl
                    · refine te_cmp ok ?_ ?_ rfl
                      · refine te_app ok (g_B h n_len b_len (by decide) (by kernel_rfl) (by rfl)) (.builtin _) (to_len) ?_
                        · refine tg_cons ⟨rfl, rfl⟩ ?_
                          refine ta_cons ?_ ?_ rfl
                          · exact te_nm ok _ 4 rfl
                          · exact ta_nil
                      · exact te_int _ _ _
                  · exact tb_nil
theorem df_Init : DefFacts 68 "Whitespace.__init__" ["self", "ws"] ["S", "T", "count", "b", "n", "nt", "ch"] 2 [] := ⟨fun p => by kernel_rfl, fun p => by kernel_rfl, fun p => by kernel_rfl, fun p S vs' hl => by match vs', hl with | [a, b], _ => kernel_rfl, fun p => by kernel_rfl, fun p => by kernel_rfl, fun p => by kernel_rfl, fun p => by kernel_rfl, by decide +kernel⟩
theorem of_cls {W : Wd} (h : Is W) {X : Fx} (ok : X.Ok W 2) : TO W X (.ref W.C) (wsNew fInit) := ⟨op_new (mkDef h (dv := []) df_Init (fun p => by kernel_rfl) .nil rfl) (fun X ok hcs hn => (ss_Init h X ok hcs hn).h) (cls_ok h) ok⟩

end Mine
end

noncomputable section -- L2e
open PySem PySem.W PySem.Calls PyProof.Rows
set_option maxRecDepth 100000
set_option autoImplicit false
namespace Mine
noncomputable def wBisect_b0 : ST := (sSeq (sAsg 5 (eBin .FloorDiv (eBin .Add (eNm 2) (eNm 3)) (eInt 2))) (sSeq (sIf (bCmp .Lt (eNm 1) (eIdx (eNm 0) (eNm 5))) (sSeq (sAsg 3 (eNm 5)) sPass) (sSeq (sAsg 2 (eBin .Add (eNm 5) (eInt 1))) sPass)) sPass))
noncomputable def wBisect_t1 : BV := (bCmp .Lt (eNm 2) (eNm 3))
noncomputable def wBisect : ST := (sSeq (sIf (bCmp .Lt (eNm 2) (eInt 0)) sFail sPass) (sSeq (sIf (bCmp .Is (eNm 3) eNone) (sSeq (sAsg 3 (eApp bLen (esCons (eNm 0) esNil))) sPass) sPass) (sSeq (sIf (bCmp .Is (eNm 4) eNone) (sSeq (sWhile wBisect_t1 wBisect_b0) sPass) sFail) (sSeq (sRet (eNm 2)) sPass))))
noncomputable def fBisect : FW := defW (inits 2 [.int 0, .none, .none] 1) wBisect
theorem ss_Bisect {W : Wd} (h : Is W) (X : Fx) (ok : X.Ok W 0) (hcs : X.cs = scopeOf W.w.params 30) (hn : X.names = (["a", "x", "lo", "hi", "key"] : List Str) ++ (["mid"] : List Str)) : TB W X (bodyOf W.w.params 30) wBisect := by
  obtain ⟨A₀, base, outer, h₀, L, cn, cs, a, ccd, names, os, clx⟩ := X
  obtain rfl : cs = _ := hcs
  obtain rfl : names = _ := hn
  unfold wBisect
  refine tb_cons ?_ ?_
  · refine t1_if ?_ ?_ ?_
    · refine tt_cmp ok ?_ ?_ rfl
      · exact te_nm ok _ 2 rfl
      · exact te_int _ _ _
    · exact tb_fail
    · exact tb_nil
  · refine tb_cons ?_ ?_
    · refine t1_if ?_ ?_ ?_
      · refine tt_cmp ok ?_ ?_ rfl
        · exact te_nm ok _ 3 rfl
        · exact te_none _ _
      · refine tb_cons ?_ ?_
        · refine t1_asg ok rfl ?_ rfl
          · refine te_app ok (g_B h n_len b_len (by decide) (by kernel_rfl) (by rfl)) (.builtin _) (to_len) ?_
            · refine tg_cons ⟨rfl, rfl⟩ ?_
              refine ta_cons ?_ ?_ rfl
              · exact te_nm ok _ 0 rfl
              · exact ta_nil
        · exact tb_nil
      · exact tb_nil
    · refine tb_cons ?_ ?_
      · refine t1_if ?_ ?_ ?_
        · refine tt_cmp ok ?_ ?_ rfl
          · exact te_nm ok _ 4 rfl
          · exact te_none _ _
        · refine tb_cons ?_ ?_
          · refine t1_while ?_ ?_
            · refine tt_cmp ok ?_ ?_ rfl
              · exact te_nm ok _ 2 rfl
              · exact te_nm ok _ 3 rfl
            · refine tb_cons ?_ ?_
              · refine t1_asg ok rfl ?_ rfl
                · refine te_bin ?_ ?_
                  · refine te_bin ?_ ?_
                    · exact te_nm ok _ 2 rfl
                    · exact te_nm ok _ 3 rfl
                  · exact te_int _ _ _
              · refine tb_cons ?_ ?_
                · refine t1_if ?_ ?_ ?_
                  · refine tt_cmp ok ?_ ?_ rfl
                    · exact te_nm ok _ 1 rfl
                    · refine te_idx ?_ ?_ (fun _ _ => rfl)
                      · exact te_nm ok _ 0 rfl
                      · exact te_nm ok _ 5 rfl
                  · refine tb_cons ?_ ?_
                    · refine t1_asg ok rfl ?_ rfl
                      · exact te_nm ok _ 5 rfl
                    · exact tb_nil
                  · refine tb_cons ?_ ?_
                    · refine t1_asg ok rfl ?_ rfl
                      · refine te_bin ?_ ?_
                        · exact te_nm ok _ 5 rfl
                        · exact te_int _ _ _
                    · exact tb_nil
                · exact tb_nil
          · exact tb_nil
        · exact tb_fail
      · refine tb_cons ?_ ?_
        · refine t1_ret ?_
          · exact te_nm ok _ 2 rfl
        · exact tb_nil
theorem df_Bisect : DefFacts 30 "bisect_right" ["a", "x", "lo", "hi", "key"] ["mid"] 2 [.int 0 196, .none, .none] := ⟨fun p => by kernel_rfl, fun p => by kernel_rfl, fun p => by kernel_rfl, fun p S vs' hl => by match vs', hl with | [a, b], _ => kernel_rfl, fun p => by kernel_rfl, fun p => by kernel_rfl, fun p => by kernel_rfl, fun p => by kernel_rfl, by decide +kernel⟩
theorem of_Bisect {W : Wd} (h : Is W) {X : Fx} (ok : X.Ok W 1) : TO W X (.ref 30) fBisect := ⟨opf_def (mkDef h (dv := [.int 0, .none, .none]) df_Bisect (fun p => by kernel_rfl) (.cons (VR.int _ _) (.cons VR.none (.cons VR.none .nil))) rfl) (fun X ok hcs hn => (ss_Bisect h X ok hcs hn).h) ok⟩
theorem keep_Bisect {W : Wd} (h : Is W) : keepIn W.K (.ref 30) = true := by rw [h.K]; exact (show ∀ p, keepIn (hd.heap_1 p) (.ref 30) = true from fun p => by kernel_rfl) _

noncomputable def wLay_b0 : ST := (sSeq (sExp (eMeth isListV mInsert0 (eNm 6) (esCons (eInt 0) (esCons (eMeth isListV mPop (eNm 0) esNil) esNil)))) sPass)
noncomputable def wLay_t1 : BV := (bCmp .NotEq (eNm 0) (eList esNil))
noncomputable def wLay_b2 : ST := (sSeq (sExp (eMeth isListV mInsert0 (eNm 6) (esCons (eInt 0) (esCons (eMeth isListV mPop (eNm 0) esNil) esNil)))) sPass)
noncomputable def wLay_t3 : BV := (bAnd (bCmp .NotEq (eNm 0) (eList esNil)) (bAnd (bCmp .NotEq (eIdx (eIdx (eNm 0) (eNeg (eInt 1))) (eInt 0)) (eInt 5)) (bAnd (bVal (eApp fTerm (esCons (eIdx (eIdx (eNm 0) (eNeg (eInt 1))) (eInt 0)) esNil))) bTrue)))
noncomputable def wLay_b4 : ST := (sSeq (sExp (eMeth isListV mInsert0 (eNm 6) (esCons (eInt 0) (esCons (eMeth isListV mPop (eNm 0) esNil) esNil)))) sPass)
noncomputable def wLay_t5 : BV := (bVal (eApp fNonterm (esCons (eIdx (eIdx (eNm 0) (eNeg (eInt 1))) (eInt 0)) esNil)))
noncomputable def wLay : ST := (sSeq (sAsg 4 (eBin .Sub (eApp fBisect (esCons (eNm 1) (esCons (eNm 3) esNil))) (eInt 1))) (sSeq (sAsg 5 (eList (esCons (eNm 2) (esCons (eNm 4) (esCons (eBin .Sub (eNm 3) (eIdx (eNm 1) (eNm 4))) esNil))))) (sSeq (sAsg 6 (eList (esCons (eNm 5) esNil))) (sSeq (sIf (bVal (eApp fEof (esCons (eNm 2) esNil))) (sSeq (sWhile wLay_t1 wLay_b0) (sSeq (sExp (eMeth isListV mInsert0 (eNm 6) (esCons (eInt 0) (esCons (eInt 259) esNil)))) sPass)) (sSeq (sIf (bCmp .Eq (eNm 2) (eInt 4)) (sSeq (sWhile wLay_t3 wLay_b2) (sSeq (sExp (eMeth isListV mInsert0 (eNm 6) (esCons (eInt 0) (esCons (eInt 256) esNil)))) sPass)) (sSeq (sIf (bCmp .Eq (eNm 2) (eInt 6)) (sSeq (sWhile wLay_t5 wLay_b4) (sSeq (sExp (eMeth isListV mInsert0 (eNm 6) (esCons (eInt 0) (esCons (eMeth isListV mPop (eNm 0) esNil) esNil)))) (sSeq (sExp (eMeth isListV mInsert0 (eNm 6) (esCons (eInt 0) (esCons (eInt 257) esNil)))) sPass))) (sSeq (sAsg 6 (eNm 5)) sPass)) sPass)) sPass)) (sSeq (sExp (eMeth isListV mAppend (eNm 0) (esCons (eNm 6) esNil))) sPass)))))
noncomputable def fLay : FW := defW (inits 4 [] 3) wLay
theorem ss_Lay {W : Wd} (h : Is W) (X : Fx) (ok : X.Ok W 1) (hcs : X.cs = scopeOf W.w.params 160) (hn : X.names = (["pile", "starts", "number", "place"] : List Str) ++ (["row", "leaf", "node"] : List Str)) : TB W X (bodyOf W.w.params 160) wLay := by
  obtain ⟨A₀, base, outer, h₀, L, cn, cs, a, ccd, names, os, clx⟩ := X
  obtain rfl : cs = _ := hcs
  obtain rfl : names = _ := hn
  unfold wLay
  refine tb_cons ?_ ?_
  · refine t1_asg ok rfl ?_ rfl
    · refine te_bin ?_ ?_
      · refine te_app ok (g_K h k_bisect (by kernel_rfl) (by rfl)) (.fn _ (keep_Bisect h)) (of_Bisect h (ok.mono (by decide))) ?_
        · refine tg_cons ⟨rfl, rfl⟩ ?_
          refine ta_cons ?_ ?_ rfl
          · exact te_nm ok _ 1 rfl
          · refine ta_cons ?_ ?_ rfl
            · exact te_nm ok _ 3 rfl
            · exact ta_nil
      · exact te_int _ _ _
  · refine tb_cons ?_ ?_
    · refine t1_asg ok rfl ?_ rfl
      · refine te_list ?_
        · refine ta_cons ?_ ?_ rfl
          · exact te_nm ok _ 2 rfl
          · refine ta_cons ?_ ?_ rfl
            · exact te_nm ok _ 4 rfl
            · refine ta_cons ?_ ?_ rfl
              · refine te_bin ?_ ?_
                · exact te_nm ok _ 3 rfl
                · refine te_idx ?_ ?_ (fun _ _ => rfl)
                  · exact te_nm ok _ 1 rfl
                  · exact te_nm ok _ 4 rfl
              · exact ta_nil
    · refine tb_cons ?_ ?_
      · refine t1_asg ok rfl ?_ rfl
        · refine te_list ?_
          · refine ta_cons ?_ ?_ rfl
            · exact te_nm ok _ 5 rfl
            · exact ta_nil
      · refine tb_cons ?_ ?_
        · refine t1_if ?_ ?_ ?_
          · refine tt_val ?_ (fun _ => rfl)
            · refine te_app ok (g_K h k_eof (by kernel_rfl) (by rfl)) (.fn _ (keep_Eof h)) (of_Eof h (ok.mono (by decide))) ?_
              · refine tg_cons ⟨rfl, rfl⟩ ?_
                refine ta_cons ?_ ?_ rfl
                · exact te_nm ok _ 2 rfl
                · exact ta_nil
          · refine tb_cons ?_ ?_
            · refine t1_while ?_ ?_
              · refine tt_cmp ok ?_ ?_ rfl
                · exact te_nm ok _ 0 rfl
                · refine te_list ?_
                  · exact ta_nil
              · refine tb_cons ?_ ?_
                · refine t1_exp ?_ rfl rfl
                  · refine te_meth ok ?_ ?_ tm_insert0 (fun _ => rfl) rfl rfl
                    · exact te_nm ok _ 6 rfl
                    · refine tg_cons ⟨rfl, rfl⟩ ?_
                      refine ta_cons ?_ ?_ rfl
                      · exact te_int _ _ _
                      · refine ta_cons ?_ ?_ rfl
                        · refine te_meth ok ?_ ?_ tm_pop (fun _ => rfl) rfl rfl
                          · exact te_nm ok _ 0 rfl
                          · exact tg_nil
                        · exact ta_nil
                · exact tb_nil
            · refine tb_cons ?_ ?_
              · refine t1_exp ?_ rfl rfl
                · refine te_meth ok ?_ ?_ tm_insert0 (fun _ => rfl) rfl rfl
                  · exact te_nm ok _ 6 rfl
                  · refine tg_cons ⟨rfl, rfl⟩ ?_
                    refine ta_cons ?_ ?_ rfl
                    · exact te_int _ _ _
                    · refine ta_cons ?_ ?_ rfl
                      · exact te_int _ _ _
                      · exact ta_nil
              · exact tb_nil
          · refine tb_cons ?_ ?_
            · refine t1_if ?_ ?_ ?_
              · refine tt_cmp ok ?_ ?_ rfl
                · exact te_nm ok _ 2 rfl
                · exact te_int _ _ _
              · refine tb_cons ?_ ?_
                · refine t1_while ?_ ?_
                  · refine tt_and ?_ ?_
                    · refine tt_cmp ok ?_ ?_ rfl
                      · exact te_nm ok _ 0 rfl
                      · refine te_list ?_
                        · exact ta_nil
                    · refine tt_and ?_ ?_
                      · refine tt_cmp ok ?_ ?_ rfl
                        · refine te_idx ?_ ?_ (fun _ _ => rfl)
                          · refine te_idx ?_ ?_ (fun _ _ => rfl)
                            · exact te_nm ok _ 0 rfl
                            · refine te_neg ?_
                              · exact te_int _ _ _
                          · exact te_int _ _ _
                        · exact te_int _ _ _
                      · refine tt_and ?_ ?_
                        · refine tt_val ?_ (fun _ => rfl)
                          · refine te_app ok (g_K h k_term (by kernel_rfl) (by rfl)) (.fn _ (keep_Term h)) (of_Term h (ok.mono (by decide))) ?_
                            · refine tg_cons ⟨rfl, rfl⟩ ?_
                              refine ta_cons ?_ ?_ rfl
                              · refine te_idx ?_ ?_ (fun _ _ => rfl)
                                · refine te_idx ?_ ?_ (fun _ _ => rfl)
                                  · exact te_nm ok _ 0 rfl
                                  · refine te_neg ?_
                                    · exact te_int _ _ _
                                · exact te_int _ _ _
                              · exact ta_nil
                        · exact tt_nil
                  · refine tb_cons ?_ ?_
                    · refine t1_exp ?_ rfl rfl
                      · refine te_meth ok ?_ ?_ tm_insert0 (fun _ => rfl) rfl rfl
                        · exact te_nm ok _ 6 rfl
                        · refine tg_cons ⟨rfl, rfl⟩ ?_
                          refine ta_cons ?_ ?_ rfl
                          · exact te_int _ _ _
                          · refine ta_cons ?_ ?_ rfl
                            · refine te_meth ok ?_ ?_ tm_pop (fun _ => rfl) rfl rfl
                              · exact te_nm ok _ 0 rfl
                              · exact tg_nil
                            · exact ta_nil
                    · exact tb_nil
                · refine tb_cons ?_ ?_
                  · refine t1_exp ?_ rfl rfl
                    · refine te_meth ok ?_ ?_ tm_insert0 (fun _ => rfl) rfl rfl
                      · exact te_nm ok _ 6 rfl
                      · refine tg_cons ⟨rfl, rfl⟩ ?_
                        refine ta_cons ?_ ?_ rfl
                        · exact te_int _ _ _
                        · refine ta_cons ?_ ?_ rfl
                          · exact te_int _ _ _
                          · exact ta_nil
                  · exact tb_nil
              · refine tb_cons ?_ ?_
                · refine t1_if ?_ ?_ ?_
                  · refine tt_cmp ok ?_ ?_ rfl
                    · exact te_nm ok _ 2 rfl
                    · exact te_int _ _ _
                  · refine tb_cons ?_ ?_
                    · refine t1_while ?_ ?_
                      · refine tt_val ?_ (fun _ => rfl)
                        · refine te_app ok (g_K h k_nonterm (by kernel_rfl) (by rfl)) (.fn _ (keep_Nonterm h)) (of_Nonterm h (ok.mono (by decide))) ?_
                          · refine tg_cons ⟨rfl, rfl⟩ ?_
                            refine ta_cons ?_ ?_ rfl
                            · refine te_idx ?_ ?_ (fun _ _ => rfl)
                              · refine te_idx ?_ ?_ (fun _ _ => rfl)
                                · exact te_nm ok _ 0 rfl
                                · refine te_neg ?_
                                  · exact te_int _ _ _
                              · exact te_int _ _ _
                            · exact ta_nil
                      · refine tb_cons ?_ ?_
                        · refine t1_exp ?_ rfl rfl
                          · refine te_meth ok ?_ ?_ tm_insert0 (fun _ => rfl) rfl rfl
                            · exact te_nm ok _ 6 rfl
                            · refine tg_cons ⟨rfl, rfl⟩ ?_
                              refine ta_cons ?_ ?_ rfl
                              · exact te_int _ _ _
                              · refine ta_cons ?_ ?_ rfl
                                · refine te_meth ok ?_ ?_ tm_pop (fun _ => rfl) rfl rfl
                                  · exact te_nm ok _ 0 rfl
                                  · exact tg_nil
                                · exact ta_nil
                        · exact tb_nil
                    · refine tb_cons ?_ ?_
                      · refine t1_exp ?_ rfl rfl
                        · refine te_meth ok ?_ ?_ tm_insert0 (fun _ => rfl) rfl rfl
                          · exact te_nm ok _ 6 rfl
                          · refine tg_cons ⟨rfl, rfl⟩ ?_
                            refine ta_cons ?_ ?_ rfl
                            · exact te_int _ _ _
                            · refine ta_cons ?_ ?_ rfl
                              · refine te_meth ok ?_ ?_ tm_pop (fun _ => rfl) rfl rfl
                                · exact te_nm ok _ 0 rfl
                                · exact tg_nil
                              · exact ta_nil
                      · refine tb_cons ?_ ?_
                        · refine t1_exp ?_ rfl rfl
                          · refine te_meth ok ?_ ?_ tm_insert0 (fun _ => rfl) rfl rfl
                            · exact te_nm ok _ 6 rfl
                            · refine tg_cons ⟨rfl, rfl⟩ ?_
                              refine ta_cons ?_ ?_ rfl
                              · exact te_int _ _ _
                              · refine ta_cons ?_ ?_ rfl
                                · exact te_int _ _ _
                                · exact ta_nil
                        · exact tb_nil
                  · refine tb_cons ?_ ?_
                    · refine t1_asg ok rfl ?_ rfl
                      · exact te_nm ok _ 5 rfl
                    · exact tb_nil
                · exact tb_nil
            · exact tb_nil
        · refine tb_cons ?_ ?_
          · refine t1_exp ?_ rfl rfl
            · refine te_meth ok ?_ ?_ tm_append (fun _ => rfl) rfl rfl
              · exact te_nm ok _ 0 rfl
              · refine tg_cons ⟨rfl, rfl⟩ ?_
                refine ta_cons ?_ ?_ rfl
                · exact te_nm ok _ 6 rfl
                · exact ta_nil
          · exact tb_nil
theorem df_Lay : DefFacts 160 "_law_lay" ["pile", "starts", "number", "place"] ["row", "leaf", "node"] 4 [] := ⟨fun p => by kernel_rfl, fun p => by kernel_rfl, fun p => by kernel_rfl, fun p S vs' hl => by match vs', hl with | [a, b, c, d], _ => kernel_rfl, fun p => by kernel_rfl, fun p => by kernel_rfl, fun p => by kernel_rfl, fun p => by kernel_rfl, by decide +kernel⟩
theorem of_Lay {W : Wd} (h : Is W) {X : Fx} (ok : X.Ok W 2) : TO W X (.ref 160) fLay := ⟨opf_def (mkDef h (dv := []) df_Lay (fun p => by kernel_rfl) .nil rfl) (fun X ok hcs hn => (ss_Lay h X ok hcs hn).h) ok⟩
theorem keep_Lay {W : Wd} (h : Is W) : keepIn W.K (.ref 160) = true := by rw [h.K]; exact (show ∀ p, keepIn (hd.heap_1 p) (.ref 160) = true from fun p => by kernel_rfl) _

end Mine
end

noncomputable section -- L2f
open PySem PySem.W PySem.Calls PyProof.Rows
set_option maxRecDepth 100000
set_option autoImplicit false
namespace Mine
noncomputable def wDraw_b0 : ST := (sSeq (sExp (eMeth isListV mAppend (eIdx (eNm 4) (eNeg (eInt 1))) (esCons (eList (esCons (eInt 6) (esCons (eIdx (eNm 2) (eInt 1)) (esCons (eInt 0) esNil)))) esNil))) (sSeq (sExp (eMeth isListV mPop (eNm 4) esNil)) sPass))
noncomputable def wDraw_t1 : BV := (bCmp .Gt (eApp bLen (esCons (eNm 4) esNil)) (eInt 1))
noncomputable def wDraw_b2 : ST := (sSeq (sAsg 18 (eApp fWrite (esCons (eNm 2) (esCons (eNm 16) (esCons (eNm 17) esNil))))) (sSeq (sIf (bCmp .Gt (eNm 16) (eInt 0)) (sSeq (sExp (eMeth isListV mAppend (eNm 15) (esCons (eNm 18) esNil))) sPass) sPass) sPass))
noncomputable def wDraw_b3 : ST := (sSeq (sExp (eMeth isListV mAppend (eIdx (eNm 4) (eNeg (eInt 1))) (esCons (eList (esCons (eInt 6) (esCons (eIdx (eNm 2) (eInt 1)) (esCons (eApp bLen (esCons (eNm 10) esNil)) esNil)))) esNil))) (sSeq (sExp (eMeth isListV mPop (eNm 4) esNil)) sPass))
noncomputable def wDraw_t4 : BV := (bCmp .Gt (eApp bLen (esCons (eNm 4) esNil)) (eApp bLen (esCons (eNm 3) esNil)))
noncomputable def wDraw_b5 : ST := (sSeq (sIf (bCmp .Eq (eBin .Mod (eBin .FloorDiv (eNm 5) (eInt 6560)) (eInt 3)) (eInt 0)) (sSeq (sExp (eApp fWrite (esCons (eNm 2) (esCons (eNeg (eInt 1)) (esCons (eStr [9, 32]) esNil))))) (sSeq (sExp (eMeth isListV mAppend (eIdx (eNm 4) (eNeg (eInt 1))) (esCons (eList (esCons (eInt 258) (esCons (eApp fWrite (esCons (eNm 2) (esCons (eInt 63) (esCons (eStr [10]) esNil)))) esNil))) esNil))) sPass)) sPass) (sSeq (sAsg 6 (eBin .Mod (eNm 5) (eBin .Add (eApp bLen (esCons (eNm 3) esNil)) (eInt 1)))) (sSeq (sIf (bCmp .Eq (eNm 6) (eApp bLen (esCons (eNm 3) esNil))) (sSeq (sTgt (tPair 7 8) (eIdx (eNm 3) (eNeg (eInt 1)))) (sSeq (sAsg 9 (eBin .Mod (eBin .FloorDiv (eNm 5) (eInt 5)) (eInt 4))) (sSeq (sIf (bCmp .Lt (eNm 9) (eInt 3)) (sSeq (sExp (eMeth isListV mAppend (eNm 3) (esCons (eList (esCons (eBin .Add (eNm 7) (eList (esCons (eBin .Add (eNm 9) (eInt 1)) (esCons (eInt 0) esNil)))) (esCons (eNm 8) esNil))) esNil))) sPass) (sSeq (sExp (eMeth isListV mAppend (eNm 3) (esCons (eList (esCons (eNm 7) (esCons (eBin .Add (eNm 8) (eInt 2)) esNil))) esNil))) sPass)) (sSeq (sExp (eMeth isListV mAppend (eNm 4) (esCons (eList (esCons (eInt 257) (esCons (eList (esCons (eInt 5) (esCons (eIdx (eNm 2) (eInt 1)) (esCons (eInt 0) esNil)))) esNil))) esNil))) (sSeq (sExp (eMeth isListV mAppend (eIdx (eNm 4) (eNeg (eInt 2))) (esCons (eIdx (eNm 4) (eNeg (eInt 1))) esNil))) sPass))))) sPass) (sSeq (sAsg 3 (eSlc (eNm 3) none (some (eBin .Add (eNm 6) (eInt 1))))) (sSeq (sTgt (tPair 7 8) (eIdx (eNm 3) (eNeg (eInt 1)))) (sSeq (sIf (bCmp .Eq (eBin .Mod (eBin .FloorDiv (eNm 5) (eInt 20)) (eInt 2)) (eInt 1)) (sSeq (sAsg 7 (eRev (eNm 7))) sPass) sPass) (sSeq (sAsg 10 (eBin .Add (eMeth isStrV mJoin0 (eStr []) (esCons (eRuns 7) esNil)) (eBin .Mult (eStr [32]) (eNm 8)))) (sSeq (sWhile wDraw_t4 wDraw_b3) (sSeq (sExp (eApp fWrite (esCons (eNm 2) (esCons (eNeg (eInt 1)) (esCons (eNm 10) esNil))))) (sSeq (sAsg 11 (eList (esCons (eBin .Add (eInt 14) (eBin .Mod (eBin .FloorDiv (eNm 5) (eInt 160)) (eInt 41))) (esCons (eIdx (eNm 1) (eBin .Mod (eBin .FloorDiv (eNm 5) (eInt 160)) (eInt 41))) esNil)))) (sSeq (sAsg 12 (eList (esCons (eInt 4) (esCons (eStr [10]) esNil)))) (sSeq (sAsg 13 (eBin .Mod (eBin .FloorDiv (eNm 5) (eInt 40)) (eInt 4))) (sSeq (sIf (bCmp .Eq (eNm 13) (eInt 0)) (sSeq (sAsg 14 (eList (esCons (eList (esCons (eInt 1) (esCons (eStr [97]) esNil))) (esCons (eNm 11) (esCons (eList (esCons (eInt 1) (esCons (eStr [98]) esNil))) (esCons (eNm 12) esNil)))))) sPass) (sSeq (sIf (bCmp .Eq (eNm 13) (eInt 1)) (sSeq (sAsg 14 (eList (esCons (eList (esCons (eInt 1) (esCons (eStr [97]) esNil))) (esCons (eList (esCons (eInt 7) (esCons (eStr [40]) esNil))) (esCons (eNm 11) (esCons (eList (esCons (eInt 63) (esCons (eStr [10]) esNil))) (esCons (eList (esCons (eNeg (eInt 1)) (esCons (eStr [32, 9]) esNil))) (esCons (eList (esCons (eInt 1) (esCons (eStr [98]) esNil))) (esCons (eList (esCons (eInt 8) (esCons (eStr [41]) esNil))) (esCons (eNm 12) esNil)))))))))) sPass) (sSeq (sIf (bCmp .Eq (eNm 13) (eInt 2)) (sSeq (sAsg 14 (eList (esCons (eList (esCons (eInt 3) (esCons (eBin .Add (eBin .Add (eStr [34, 92, 34, 40]) (eIdx (eNm 11) (eInt 1))) (eStr [34])) esNil))) (esCons (eNm 11) (esCons (eList (esCons (eInt 1) (esCons (eStr [97]) esNil))) (esCons (eNm 12) esNil)))))) sPass) (sSeq (sAsg 14 (eList (esCons (eList (esCons (eInt 1) (esCons (eStr [97]) esNil))) (esCons (eNm 11) (esCons (eList (esCons (eNeg (eInt 1)) (esCons (eStr [92, 10]) esNil))) (esCons (eList (esCons (eNeg (eInt 1)) (esCons (eStr [9]) esNil))) (esCons (eList (esCons (eInt 1) (esCons (eStr [98]) esNil))) (esCons (eNm 12) esNil)))))))) sPass)) sPass)) sPass)) (sSeq (sAsg 15 (eList (esCons (eInt 256) esNil))) (sSeq (sForL (eNm 14) (tPair 16 17) wDraw_b2) (sSeq (sExp (eMeth isListV mAppend (eIdx (eNm 4) (eNeg (eInt 1))) (esCons (eNm 15) esNil))) sPass))))))))))))))))
noncomputable def wDraw : ST := (sSeq (sAsg 1 (eMeth isStrV (mSplit splitF) (eStr [43, 32, 45, 32, 42, 32, 47, 32, 124, 32, 38, 32, 60, 32, 62, 32, 61, 32, 46, 32, 37, 32, 123, 32, 125, 32, 61, 61, 32, 33, 61, 32, 60, 61, 32, 62, 61, 32, 126, 32, 94, 32, 60, 60, 32, 62, 62, 32, 42, 42, 32, 43, 61, 32, 45, 61, 32, 42, 61, 32, 47, 61, 32, 37, 61, 32, 38, 61, 32, 124, 61, 32, 94, 61, 32, 60, 60, 61, 32, 62, 62, 61, 32, 42, 42, 61, 32, 47, 47, 32, 47, 47, 61, 32, 64, 32, 64, 61, 32, 45, 62, 32, 46, 46, 46, 32, 58, 61, 32, 33]) (esCons (eStr [32]) esNil))) (sSeq (sAsg 2 (eList (esCons (eStr []) (esCons (eInt 0) (esCons (eInt 0) esNil))))) (sSeq (sAsg 3 (eList (esCons (eList (esCons (eList esNil) (esCons (eInt 0) esNil))) esNil))) (sSeq (sAsg 4 (eList (esCons (eList (esCons (eInt 259) esNil)) esNil))) (sSeq (sForL (eNm 0) (tNm 5) wDraw_b5) (sSeq (sWhile wDraw_t1 wDraw_b0) (sSeq (sRet (eTup (esCons (eIdx (eNm 2) (eInt 0)) (esCons (eBin .Add (eIdx (eNm 4) (eInt 0)) (eList (esCons (eList (esCons (eInt 0) (esCons (eIdx (eNm 2) (eInt 1)) (esCons (eInt 0) esNil)))) esNil))) esNil)))) sPass)))))))
noncomputable def fDraw : FW := defW (inits 1 [] 18) wDraw
theorem ss_Draw {W : Wd} (h : Is W) (X : Fx) (ok : X.Ok W 1) (hcs : X.cs = scopeOf W.w.params 153) (hn : X.names = (["numbers"] : List Str) ++ (["operators", "page", "leads", "blocks", "x", "level", "runs", "blanks", "kind", "lead", "op", "end", "form", "words", "statement", "number", "signs", "leaf"] : List Str)) : TB W X (bodyOf W.w.params 153) wDraw := by
  obtain ⟨A₀, base, outer, h₀, L, cn, cs, a, ccd, names, os, clx⟩ := X
  obtain rfl : cs = _ := hcs
  obtain rfl : names = _ := hn
  unfold wDraw
  refine tb_cons ?_ ?_
  · refine t1_asg ok rfl ?_ rfl
    · refine te_meth ok ?_ ?_ tm_split (fun _ => rfl) rfl rfl
      · exact te_str (by kernel_rfl) _ _
      · refine tg_cons ⟨rfl, rfl⟩ ?_
        refine ta_cons ?_ ?_ rfl
        · exact te_str (by kernel_rfl) _ _
        · exact ta_nil
  · refine tb_cons ?_ ?_
    · refine t1_asg ok rfl ?_ rfl
      · refine te_list ?_
        · refine ta_cons ?_ ?_ rfl
          · exact te_str (by kernel_rfl) _ _
          · refine ta_cons ?_ ?_ rfl
            · exact te_int _ _ _
            · refine ta_cons ?_ ?_ rfl
              · exact te_int _ _ _
              · exact ta_nil
    · refine tb_cons ?_ ?_
      · refine t1_asg ok rfl ?_ rfl
        · refine te_list ?_
          · refine ta_cons ?_ ?_ rfl
            · refine te_list ?_
              · refine ta_cons ?_ ?_ rfl
                · refine te_list ?_
                  · exact ta_nil
                · refine ta_cons ?_ ?_ rfl
                  · exact te_int _ _ _
                  · exact ta_nil
            · exact ta_nil
      · refine tb_cons ?_ ?_
        · refine t1_asg ok rfl ?_ rfl
          · refine te_list ?_
            · refine ta_cons ?_ ?_ rfl
              · refine te_list ?_
                · refine ta_cons ?_ ?_ rfl
                  · exact te_int _ _ _
                  · exact ta_nil
              · exact ta_nil
        · refine tb_cons ?_ ?_
          · refine t1_forL ok ?_ (ty_nm ok rfl) ?_ (fun _ => rfl)
            · exact te_nm ok _ 0 rfl
            · refine tb_cons ?_ ?_
              · refine t1_if ?_ ?_ ?_
                · refine tt_cmp ok ?_ ?_ rfl
                  · refine te_bin ?_ ?_
                    · refine te_bin ?_ ?_
                      · exact te_nm ok _ 5 rfl
                      · exact te_int _ _ _
                    · exact te_int _ _ _
                  · exact te_int _ _ _
                · refine tb_cons ?_ ?_
                  · refine t1_exp ?_ rfl rfl
                    · refine te_app ok (g_K h k_write (by kernel_rfl) (by rfl)) (.fn _ (keep_Write h)) (of_Write h (ok.mono (by decide))) ?_
                      · refine tg_cons ⟨rfl, rfl⟩ ?_
                        refine ta_cons ?_ ?_ rfl
                        · exact te_nm ok _ 2 rfl
                        · refine ta_cons ?_ ?_ rfl
                          · refine te_neg ?_
                            · exact te_int _ _ _
                          · refine ta_cons ?_ ?_ rfl
                            · exact te_str (by kernel_rfl) _ _
                            · exact ta_nil
                  · refine tb_cons ?_ ?_
                    · refine t1_exp ?_ rfl rfl
                      · refine te_meth ok ?_ ?_ tm_append (fun _ => rfl) rfl rfl
                        · refine te_idx ?_ ?_ (fun _ _ => rfl)
                          · exact te_nm ok _ 4 rfl
                          · refine te_neg ?_
                            · exact te_int _ _ _
                        · refine tg_cons ⟨rfl, rfl⟩ ?_
                          refine ta_cons ?_ ?_ rfl
                          · refine te_list ?_
                            · refine ta_cons ?_ ?_ rfl
                              · exact te_int _ _ _
                              · refine ta_cons ?_ ?_ rfl
                                · refine te_app ok (g_K h k_write (by kernel_rfl) (by rfl)) (.fn _ (keep_Write h)) (of_Write h (ok.mono (by decide))) ?_
                                  · refine tg_cons ⟨rfl, rfl⟩ ?_
                                    refine ta_cons ?_ ?_ rfl
                                    · exact te_nm ok _ 2 rfl
                                    · refine ta_cons ?_ ?_ rfl
                                      · exact te_int _ _ _
                                      · refine ta_cons ?_ ?_ rfl
                                        · exact te_str (by kernel_rfl) _ _
                                        · exact ta_nil
                                · exact ta_nil
                          · exact ta_nil
                    · exact tb_nil
                · exact tb_nil
              · refine tb_cons ?_ ?_
                · refine t1_asg ok rfl ?_ rfl
                  · refine te_bin ?_ ?_
                    · exact te_nm ok _ 5 rfl
                    · refine te_bin ?_ ?_
                      · refine te_app ok (g_B h n_len b_len (by decide) (by kernel_rfl) (by rfl)) (.builtin _) (to_len) ?_
                        · refine tg_cons ⟨rfl, rfl⟩ ?_
                          refine ta_cons ?_ ?_ rfl
                          · exact te_nm ok _ 3 rfl
                          · exact ta_nil
                      · exact te_int _ _ _
                · refine tb_cons ?_ ?_
                  · refine t1_if ?_ ?_ ?_
                    · refine tt_cmp ok ?_ ?_ rfl
                      · exact te_nm ok _ 6 rfl
                      · refine te_app ok (g_B h n_len b_len (by decide) (by kernel_rfl) (by rfl)) (.builtin _) (to_len) ?_
                        · refine tg_cons ⟨rfl, rfl⟩ ?_
                          refine ta_cons ?_ ?_ rfl
                          · exact te_nm ok _ 3 rfl
                          · exact ta_nil
                    · refine tb_cons ?_ ?_
                      · refine t1_pair ?_ (ty_pair ok rfl rfl) rfl rfl
                        · refine te_idx ?_ ?_ (fun _ _ => rfl)
                          · exact te_nm ok _ 3 rfl
                          · refine te_neg ?_
                            · exact te_int _ _ _
                      · refine tb_cons ?_ ?_
                        · refine t1_asg ok rfl ?_ rfl
                          · refine te_bin ?_ ?_
                            · refine te_bin ?_ ?_
                              · exact te_nm ok _ 5 rfl
                              · exact te_int _ _ _
                            · exact te_int _ _ _
                        · refine tb_cons ?_ ?_
                          · refine t1_if ?_ ?_ ?_
                            · refine tt_cmp ok ?_ ?_ rfl
                              · exact te_nm ok _ 9 rfl
                              · exact te_int _ _ _
                            · refine tb_cons ?_ ?_
                              · refine t1_exp ?_ rfl rfl
                                · refine te_meth ok ?_ ?_ tm_append (fun _ => rfl) rfl rfl
                                  · exact te_nm ok _ 3 rfl
                                  · refine tg_cons ⟨rfl, rfl⟩ ?_
                                    refine ta_cons ?_ ?_ rfl
                                    · refine te_list ?_
                                      · refine ta_cons ?_ ?_ rfl
                                        · refine te_bin ?_ ?_
                                          · exact te_nm ok _ 7 rfl
                                          · refine te_list ?_
                                            · refine ta_cons ?_ ?_ rfl
                                              · refine te_bin ?_ ?_
                                                · exact te_nm ok _ 9 rfl
                                                · exact te_int _ _ _
                                              · refine ta_cons ?_ ?_ rfl
                                                · exact te_int _ _ _
                                                · exact ta_nil
                                        · refine ta_cons ?_ ?_ rfl
                                          · exact te_nm ok _ 8 rfl
                                          · exact ta_nil
                                    · exact ta_nil
                              · exact tb_nil
                            · refine tb_cons ?_ ?_
                              · refine t1_exp ?_ rfl rfl
                                · refine te_meth ok ?_ ?_ tm_append (fun _ => rfl) rfl rfl
                                  · exact te_nm ok _ 3 rfl
                                  · refine tg_cons ⟨rfl, rfl⟩ ?_
                                    refine ta_cons ?_ ?_ rfl
                                    · refine te_list ?_
                                      · refine ta_cons ?_ ?_ rfl
                                        · exact te_nm ok _ 7 rfl
                                        · refine ta_cons ?_ ?_ rfl
                                          · refine te_bin ?_ ?_
                                            · exact te_nm ok _ 8 rfl
                                            · exact te_int _ _ _
                                          · exact ta_nil
                                    · exact ta_nil
                              · exact tb_nil
                          · refine tb_cons ?_ ?_
                            · refine t1_exp ?_ rfl rfl
                              · refine te_meth ok ?_ ?_ tm_append (fun _ => rfl) rfl rfl
                                · exact te_nm ok _ 4 rfl
                                · refine tg_cons ⟨rfl, rfl⟩ ?_
                                  refine ta_cons ?_ ?_ rfl
                                  · refine te_list ?_
                                    · refine ta_cons ?_ ?_ rfl
                                      · exact te_int _ _ _
                                      · refine ta_cons ?_ ?_ rfl
                                        · refine te_list ?_
                                          · refine ta_cons ?_ ?_ rfl
                                            · exact te_int _ _ _
                                            · refine ta_cons ?_ ?_ rfl
                                              · refine te_idx ?_ ?_ (fun _ _ => rfl)
                                                · exact te_nm ok _ 2 rfl
                                                · exact te_int _ _ _
                                              · refine ta_cons ?_ ?_ rfl
                                                · exact te_int _ _ _
                                                · exact ta_nil
                                        · exact ta_nil
                                  · exact ta_nil
                            · refine tb_cons ?_ ?_
                              · refine t1_exp ?_ rfl rfl
                                · refine te_meth ok ?_ ?_ tm_append (fun _ => rfl) rfl rfl
                                  · refine te_idx ?_ ?_ (fun _ _ => rfl)
                                    · exact te_nm ok _ 4 rfl
                                    · refine te_neg ?_
                                      · exact te_int _ _ _
                                  · refine tg_cons ⟨rfl, rfl⟩ ?_
                                    refine ta_cons ?_ ?_ rfl
                                    · refine te_idx ?_ ?_ (fun _ _ => rfl)
                                      · exact te_nm ok _ 4 rfl
                                      · refine te_neg ?_
                                        · exact te_int _ _ _
                                    · exact ta_nil
                              · exact tb_nil
                    · exact tb_nil
                  · refine tb_cons ?_ ?_
                    · refine t1_asg ok rfl ?_ rfl
                      · refine te_slc ?_ ?_ ?_
                        · exact te_nm ok _ 3 rfl
                        · exact tp_none
                        · refine tp_some ?_
                          refine te_bin ?_ ?_
                          · exact te_nm ok _ 6 rfl
                          · exact te_int _ _ _
                    · refine tb_cons ?_ ?_
                      · refine t1_pair ?_ (ty_pair ok rfl rfl) rfl rfl
                        · refine te_idx ?_ ?_ (fun _ _ => rfl)
                          · exact te_nm ok _ 3 rfl
                          · refine te_neg ?_
                            · exact te_int _ _ _
                      · refine tb_cons ?_ ?_
                        · refine t1_if ?_ ?_ ?_
                          · refine tt_cmp ok ?_ ?_ rfl
                            · refine te_bin ?_ ?_
                              · refine te_bin ?_ ?_
                                · exact te_nm ok _ 5 rfl
                                · exact te_int _ _ _
                              · exact te_int _ _ _
                            · exact te_int _ _ _
                          · refine tb_cons ?_ ?_
                            · refine t1_asg ok rfl ?_ rfl
                              · refine te_rev (ee := eNeg (eInt 1)) ?_ ?_ (fun _ _ _ => rfl)
                                · exact te_nm ok _ 7 rfl
                                · refine te_neg ?_
                                  · exact te_int _ _ _
                            · exact tb_nil
                          · exact tb_nil
                        · refine tb_cons ?_ ?_
                          · refine t1_asg ok rfl ?_ rfl
                            · refine te_bin ?_ ?_
                              · refine te_meth ok ?_ ?_ tm_join (fun _ => rfl) rfl rfl
                                · exact te_str (by kernel_rfl) _ _
                                · refine tg_cons ⟨rfl, rfl⟩ ?_
                                  refine ta_cons ?_ ?_ rfl
                                  · exact te_runs ok rfl (by with_unfolding_all rfl) (by decide +kernel) (by with_unfolding_all rfl) (by decide +kernel) (by kernel_rfl) (by kernel_rfl) rfl (fun _ => rfl)
                                  · exact ta_nil
                              · refine te_bin ?_ ?_
                                · exact te_str (by kernel_rfl) _ _
                                · exact te_nm ok _ 8 rfl
                          · refine tb_cons ?_ ?_
                            · refine t1_while ?_ ?_
                              · refine tt_cmp ok ?_ ?_ rfl
                                · refine te_app ok (g_B h n_len b_len (by decide) (by kernel_rfl) (by rfl)) (.builtin _) (to_len) ?_
                                  · refine tg_cons ⟨rfl, rfl⟩ ?_
                                    refine ta_cons ?_ ?_ rfl
                                    · exact te_nm ok _ 4 rfl
                                    · exact ta_nil
                                · refine te_app ok (g_B h n_len b_len (by decide) (by kernel_rfl) (by rfl)) (.builtin _) (to_len) ?_
                                  · refine tg_cons ⟨rfl, rfl⟩ ?_
                                    refine ta_cons ?_ ?_ rfl
                                    · exact te_nm ok _ 3 rfl
                                    · exact ta_nil
                              · refine tb_cons ?_ ?_
                                · refine t1_exp ?_ rfl rfl
                                  · refine te_meth ok ?_ ?_ tm_append (fun _ => rfl) rfl rfl
                                    · refine te_idx ?_ ?_ (fun _ _ => rfl)
                                      · exact te_nm ok _ 4 rfl
                                      · refine te_neg ?_
                                        · exact te_int _ _ _
                                    · refine tg_cons ⟨rfl, rfl⟩ ?_
                                      refine ta_cons ?_ ?_ rfl
                                      · refine te_list ?_
                                        · refine ta_cons ?_ ?_ rfl
                                          · exact te_int _ _ _
                                          · refine ta_cons ?_ ?_ rfl
                                            · refine te_idx ?_ ?_ (fun _ _ => rfl)
                                              · exact te_nm ok _ 2 rfl
                                              · exact te_int _ _ _
                                            · refine ta_cons ?_ ?_ rfl
                                              · refine te_app ok (g_B h n_len b_len (by decide) (by kernel_rfl) (by rfl)) (.builtin _) (to_len) ?_
                                                · refine tg_cons ⟨rfl, rfl⟩ ?_
                                                  refine ta_cons ?_ ?_ rfl
                                                  · exact te_nm ok _ 10 rfl
                                                  · exact ta_nil
                                              · exact ta_nil
                                      · exact ta_nil
                                · refine tb_cons ?_ ?_
                                  · refine t1_exp ?_ rfl rfl
                                    · refine te_meth ok ?_ ?_ tm_pop (fun _ => rfl) rfl rfl
                                      · exact te_nm ok _ 4 rfl
                                      · exact tg_nil
                                  · exact tb_nil
                            · refine tb_cons ?_ ?_
                              · refine t1_exp ?_ rfl rfl
                                · refine te_app ok (g_K h k_write (by kernel_rfl) (by rfl)) (.fn _ (keep_Write h)) (of_Write h (ok.mono (by decide))) ?_
                                  · refine tg_cons ⟨rfl, rfl⟩ ?_
                                    refine ta_cons ?_ ?_ rfl
                                    · exact te_nm ok _ 2 rfl
                                    · refine ta_cons ?_ ?_ rfl
                                      · refine te_neg ?_
                                        · exact te_int _ _ _
                                      · refine ta_cons ?_ ?_ rfl
                                        · exact te_nm ok _ 10 rfl
                                        · exact ta_nil
                              · refine tb_cons ?_ ?_
                                · refine t1_asg ok rfl ?_ rfl
                                  · refine te_list ?_
                                    · refine ta_cons ?_ ?_ rfl
                                      · refine te_bin ?_ ?_
                                        · exact te_int _ _ _
                                        · refine te_bin ?_ ?_
                                          · refine te_bin ?_ ?_
                                            · exact te_nm ok _ 5 rfl
                                            · exact te_int _ _ _
                                          · exact te_int _ _ _
                                      · refine ta_cons ?_ ?_ rfl
                                        · refine te_idx ?_ ?_ (fun _ _ => rfl)
                                          · exact te_nm ok _ 1 rfl
                                          · refine te_bin ?_ ?_
                                            · refine te_bin ?_ ?_
                                              · exact te_nm ok _ 5 rfl
                                              · exact te_int _ _ _
                                            · exact te_int _ _ _
                                        · exact ta_nil
                                · refine tb_cons ?_ ?_
                                  · refine t1_asg ok rfl ?_ rfl
                                    · refine te_list ?_
                                      · refine ta_cons ?_ ?_ rfl
                                        · exact te_int _ _ _
                                        · refine ta_cons ?_ ?_ rfl
                                          · exact te_str (by kernel_rfl) _ _
                                          · exact ta_nil
                                  · refine tb_cons ?_ ?_
                                    · refine t1_asg ok rfl ?_ rfl
                                      · refine te_bin ?_ ?_
                                        · refine te_bin ?_ ?_
                                          · exact te_nm ok _ 5 rfl
                                          · exact te_int _ _ _
                                        · exact te_int _ _ _
                                    · refine tb_cons ?_ ?_
                                      · refine t1_if ?_ ?_ ?_
                                        · refine tt_cmp ok ?_ ?_ rfl
                                          · exact te_nm ok _ 13 rfl
                                          · exact te_int _ _ _
                                        · refine tb_cons ?_ ?_
                                          · refine t1_asg ok rfl ?_ rfl
                                            · refine te_list ?_
                                              · refine ta_cons ?_ ?_ rfl
                                                · refine te_list ?_
                                                  · refine ta_cons ?_ ?_ rfl
                                                    · exact te_int _ _ _
                                                    · refine ta_cons ?_ ?_ rfl
                                                      · exact te_str (by kernel_rfl) _ _
                                                      · exact ta_nil
                                                · refine ta_cons ?_ ?_ rfl
                                                  · exact te_nm ok _ 11 rfl
                                                  · refine ta_cons ?_ ?_ rfl
                                                    · refine te_list ?_
                                                      · refine ta_cons ?_ ?_ rfl
                                                        · exact te_int _ _ _
                                                        · refine ta_cons ?_ ?_ rfl
                                                          · exact te_str (by kernel_rfl) _ _
                                                          · exact ta_nil
                                                    · refine ta_cons ?_ ?_ rfl
                                                      · exact te_nm ok _ 12 rfl
                                                      · exact ta_nil
                                          · exact tb_nil
                                        · refine tb_cons ?_ ?_
                                          · refine t1_if ?_ ?_ ?_
                                            · refine tt_cmp ok ?_ ?_ rfl
                                              · exact te_nm ok _ 13 rfl
                                              · exact te_int _ _ _
                                            · refine tb_cons ?_ ?_
                                              · refine t1_asg ok rfl ?_ rfl
                                                · refine te_list ?_
                                                  · refine ta_cons ?_ ?_ rfl
                                                    · refine te_list ?_
                                                      · refine ta_cons ?_ ?_ rfl
                                                        · exact te_int _ _ _
                                                        · refine ta_cons ?_ ?_ rfl
                                                          · exact te_str (by kernel_rfl) _ _
                                                          · exact ta_nil
                                                    · refine ta_cons ?_ ?_ rfl
                                                      · refine te_list ?_
                                                        · refine ta_cons ?_ ?_ rfl
                                                          · exact te_int _ _ _
                                                          · refine ta_cons ?_ ?_ rfl
                                                            · exact te_str (by kernel_rfl) _ _
                                                            · exact ta_nil
                                                      · refine ta_cons ?_ ?_ rfl
                                                        · exact te_nm ok _ 11 rfl
                                                        · refine ta_cons ?_ ?_ rfl
                                                          · refine te_list ?_
                                                            · refine ta_cons ?_ ?_ rfl
                                                              · exact te_int _ _ _
                                                              · refine ta_cons ?_ ?_ rfl
                                                                · exact te_str (by kernel_rfl) _ _
                                                                · exact ta_nil
                                                          · refine ta_cons ?_ ?_ rfl
                                                            · refine te_list ?_
                                                              · refine ta_cons ?_ ?_ rfl
                                                                · refine te_neg ?_
                                                                  · exact te_int _ _ _
                                                                · refine ta_cons ?_ ?_ rfl
                                                                  · exact te_str (by kernel_rfl) _ _
                                                                  · exact ta_nil
                                                            · refine ta_cons ?_ ?_ rfl
                                                              · refine te_list ?_
                                                                · refine ta_cons ?_ ?_ rfl
                                                                  · exact te_int _ _ _
                                                                  · refine ta_cons ?_ ?_ rfl
                                                                    · exact te_str (by kernel_rfl) _ _
                                                                    · exact ta_nil
                                                              · refine ta_cons ?_ ?_ rfl
                                                                · refine te_list ?_
                                                                  · refine ta_cons ?_ ?_ rfl
                                                                    · exact te_int _ _ _
                                                                    · refine ta_cons ?_ ?_ rfl
                                                                      · exact te_str (by kernel_rfl) _ _
                                                                      · exact ta_nil
                                                                · refine ta_cons ?_ ?_ rfl
                                                                  · exact te_nm ok _ 12 rfl
                                                                  · exact ta_nil
                                              · exact tb_nil
                                            · refine tb_cons ?_ ?_
                                              · refine t1_if ?_ ?_ ?_
                                                · refine tt_cmp ok ?_ ?_ rfl
                                                  · exact te_nm ok _ 13 rfl
                                                  · exact te_int _ _ _
                                                · refine tb_cons ?_ ?_
                                                  · refine t1_asg ok rfl ?_ rfl
                                                    · refine te_list ?_
                                                      · refine ta_cons ?_ ?_ rfl
                                                        · refine te_list ?_
                                                          · refine ta_cons ?_ ?_ rfl
                                                            · exact te_int _ _ _
                                                            · refine ta_cons ?_ ?_ rfl
                                                              · refine te_bin ?_ ?_
                                                                · refine te_bin ?_ ?_
                                                                  · exact te_str (by kernel_rfl) _ _
                                                                  · refine te_idx ?_ ?_ (fun _ _ => rfl)
                                                                    · exact te_nm ok _ 11 rfl
                                                                    · exact te_int _ _ _
                                                                · exact te_str (by kernel_rfl) _ _
                                                              · exact ta_nil
                                                        · refine ta_cons ?_ ?_ rfl
                                                          · exact te_nm ok _ 11 rfl
                                                          · refine ta_cons ?_ ?_ rfl
                                                            · refine te_list ?_
                                                              · refine ta_cons ?_ ?_ rfl
                                                                · exact te_int _ _ _
                                                                · refine ta_cons ?_ ?_ rfl
                                                                  · exact te_str (by kernel_rfl) _ _
                                                                  · exact ta_nil
                                                            · refine ta_cons ?_ ?_ rfl
                                                              · exact te_nm ok _ 12 rfl
                                                              · exact ta_nil
                                                  · exact tb_nil
                                                · refine tb_cons ?_ ?_
                                                  · refine t1_asg ok rfl ?_ rfl
                                                    · refine te_list ?_
                                                      · refine ta_cons ?_ ?_ rfl
                                                        · refine te_list ?_
                                                          · refine ta_cons ?_ ?_ rfl
                                                            · exact te_int _ _ _
                                                            · refine ta_cons ?_ ?_ rfl
                                                              · exact te_str (by kernel_rfl) _ _
                                                              · exact ta_nil
                                                        · refine ta_cons ?_ ?_ rfl
                                                          · exact te_nm ok _ 11 rfl
                                                          · refine ta_cons ?_ ?_ rfl
                                                            · refine te_list ?_
                                                              · refine ta_cons ?_ ?_ rfl
                                                                · refine te_neg ?_
                                                                  · exact te_int _ _ _
                                                                · refine ta_cons ?_ ?_ rfl
                                                                  · exact te_str (by kernel_rfl) _ _
                                                                  · exact ta_nil
                                                            · refine ta_cons ?_ ?_ rfl
                                                              · refine te_list ?_
                                                                · refine ta_cons ?_ ?_ rfl
                                                                  · refine te_neg ?_
                                                                    · exact te_int _ _ _
                                                                  · refine ta_cons ?_ ?_ rfl
                                                                    · exact te_str (by kernel_rfl) _ _
                                                                    · exact ta_nil
                                                              · refine ta_cons ?_ ?_ rfl
                                                                · refine te_list ?_
                                                                  · refine ta_cons ?_ ?_ rfl
                                                                    · exact te_int _ _ _
                                                                    · refine ta_cons ?_ ?_ rfl
                                                                      · exact te_str (by kernel_rfl) _ _
                                                                      · exact ta_nil
                                                                · refine ta_cons ?_ ?_ rfl
                                                                  · exact te_nm ok _ 12 rfl
                                                                  · exact ta_nil
                                                  · exact tb_nil
                                              · exact tb_nil
                                          · exact tb_nil
                                      · refine tb_cons ?_ ?_
                                        · refine t1_asg ok rfl ?_ rfl
                                          · refine te_list ?_
                                            · refine ta_cons ?_ ?_ rfl
                                              · exact te_int _ _ _
                                              · exact ta_nil
                                        · refine tb_cons ?_ ?_
                                          · refine t1_forL ok ?_ (ty_pair ok rfl rfl) ?_ (fun _ => rfl)
                                            · exact te_nm ok _ 14 rfl
                                            · refine tb_cons ?_ ?_
                                              · refine t1_asg ok rfl ?_ rfl
                                                · refine te_app ok (g_K h k_write (by kernel_rfl) (by rfl)) (.fn _ (keep_Write h)) (of_Write h (ok.mono (by decide))) ?_
                                                  · refine tg_cons ⟨rfl, rfl⟩ ?_
                                                    refine ta_cons ?_ ?_ rfl
                                                    · exact te_nm ok _ 2 rfl
                                                    · refine ta_cons ?_ ?_ rfl
                                                      · exact te_nm ok _ 16 rfl
                                                      · refine ta_cons ?_ ?_ rfl
                                                        · exact te_nm ok _ 17 rfl
                                                        · exact ta_nil
                                              · refine tb_cons ?_ ?_
                                                · refine t1_if ?_ ?_ ?_
                                                  · refine tt_cmp ok ?_ ?_ rfl
                                                    · exact te_nm ok _ 16 rfl
                                                    · exact te_int _ _ _
                                                  · refine tb_cons ?_ ?_
                                                    · refine t1_exp ?_ rfl rfl
                                                      · refine te_meth ok ?_ ?_ tm_append (fun _ => rfl) rfl rfl
                                                        · exact te_nm ok _ 15 rfl
                                                        · refine tg_cons ⟨rfl, rfl⟩ ?_
                                                          refine ta_cons ?_ ?_ rfl
                                                          · exact te_nm ok _ 18 rfl
                                                          · exact ta_nil
                                                    · exact tb_nil
                                                  · exact tb_nil
                                                · exact tb_nil
                                          · refine tb_cons ?_ ?_
                                            · refine t1_exp ?_ rfl rfl
                                              · refine te_meth ok ?_ ?_ tm_append (fun _ => rfl) rfl rfl
                                                · refine te_idx ?_ ?_ (fun _ _ => rfl)
                                                  · exact te_nm ok _ 4 rfl
                                                  · refine te_neg ?_
                                                    · exact te_int _ _ _
                                                · refine tg_cons ⟨rfl, rfl⟩ ?_
                                                  refine ta_cons ?_ ?_ rfl
                                                  · exact te_nm ok _ 15 rfl
                                                  · exact ta_nil
                                            · exact tb_nil
          · refine tb_cons ?_ ?_
            · refine t1_while ?_ ?_
              · refine tt_cmp ok ?_ ?_ rfl
                · refine te_app ok (g_B h n_len b_len (by decide) (by kernel_rfl) (by rfl)) (.builtin _) (to_len) ?_
                  · refine tg_cons ⟨rfl, rfl⟩ ?_
                    refine ta_cons ?_ ?_ rfl
                    · exact te_nm ok _ 4 rfl
                    · exact ta_nil
                · exact te_int _ _ _
              · refine tb_cons ?_ ?_
                · refine t1_exp ?_ rfl rfl
                  · refine te_meth ok ?_ ?_ tm_append (fun _ => rfl) rfl rfl
                    · refine te_idx ?_ ?_ (fun _ _ => rfl)
                      · exact te_nm ok _ 4 rfl
                      · refine te_neg ?_
                        · exact te_int _ _ _
                    · refine tg_cons ⟨rfl, rfl⟩ ?_
                      refine ta_cons ?_ ?_ rfl
                      · refine te_list ?_
                        · refine ta_cons ?_ ?_ rfl
                          · exact te_int _ _ _
                          · refine ta_cons ?_ ?_ rfl
                            · refine te_idx ?_ ?_ (fun _ _ => rfl)
                              · exact te_nm ok _ 2 rfl
                              · exact te_int _ _ _
                            · refine ta_cons ?_ ?_ rfl
                              · exact te_int _ _ _
                              · exact ta_nil
                      · exact ta_nil
                · refine tb_cons ?_ ?_
                  · refine t1_exp ?_ rfl rfl
                    · refine te_meth ok ?_ ?_ tm_pop (fun _ => rfl) rfl rfl
                      · exact te_nm ok _ 4 rfl
                      · exact tg_nil
                  · exact tb_nil
            · refine tb_cons ?_ ?_
              · refine t1_ret ?_
                · refine te_tup ?_
                  · refine ta_cons ?_ ?_ rfl
                    · refine te_idx ?_ ?_ (fun _ _ => rfl)
                      · exact te_nm ok _ 2 rfl
                      · exact te_int _ _ _
                    · refine ta_cons ?_ ?_ rfl
                      · refine te_bin ?_ ?_
                        · refine te_idx ?_ ?_ (fun _ _ => rfl)
                          · exact te_nm ok _ 4 rfl
                          · exact te_int _ _ _
                        · refine te_list ?_
                          · refine ta_cons ?_ ?_ rfl
                            · refine te_list ?_
                              · refine ta_cons ?_ ?_ rfl
                                · exact te_int _ _ _
                                · refine ta_cons ?_ ?_ rfl
                                  · refine te_idx ?_ ?_ (fun _ _ => rfl)
                                    · exact te_nm ok _ 2 rfl
                                    · exact te_int _ _ _
                                  · refine ta_cons ?_ ?_ rfl
                                    · exact te_int _ _ _
                                    · exact ta_nil
                            · exact ta_nil
                      · exact ta_nil
              · exact tb_nil
theorem df_Draw : DefFacts 153 "_law_draw" ["numbers"] ["operators", "page", "leads", "blocks", "x", "level", "runs", "blanks", "kind", "lead", "op", "end", "form", "words", "statement", "number", "signs", "leaf"] 1 [] := ⟨fun p => by kernel_rfl, fun p => by kernel_rfl, fun p => by kernel_rfl, fun p S vs' hl => by match vs', hl with | [a], _ => kernel_rfl, fun p => by kernel_rfl, fun p => by kernel_rfl, fun p => by kernel_rfl, fun p => by kernel_rfl, by decide +kernel⟩
theorem of_Draw {W : Wd} (h : Is W) {X : Fx} (ok : X.Ok W 2) : TO W X (.ref 153) fDraw := ⟨opf_def (mkDef h (dv := []) df_Draw (fun p => by kernel_rfl) .nil rfl) (fun X ok hcs hn => (ss_Draw h X ok hcs hn).h) ok⟩
theorem keep_Draw {W : Wd} (h : Is W) : keepIn W.K (.ref 153) = true := by rw [h.K]; exact (show ∀ p, keepIn (hd.heap_1 p) (.ref 153) = true from fun p => by kernel_rfl) _

end Mine
end

noncomputable section -- L2g
open PySem PySem.W PySem.Calls PyProof.Rows
set_option maxRecDepth 100000
set_option autoImplicit false
namespace Mine
noncomputable def wRead_b0 : ST := (sSeq (sExp (eMeth isListV mPop (eNm 4) esNil)) (sSeq (sExp (eApp fLay (esCons (eNm 3) (esCons (eNm 1) (esCons (eInt 6) (esCons (eApp bLen (esCons (eNm 0) esNil)) esNil)))))) sPass))
noncomputable def wRead_t1 : BV := (bCmp .Gt (eApp bLen (esCons (eNm 4) esNil)) (eInt 1))
noncomputable def wRead_b2 : ST := (sSeq (sAsg 12 (eBin .Sub (eNm 12) (eInt 1))) sPass)
noncomputable def wRead_t3 : BV := (bAnd (bCmp .Gt (eNm 12) (eInt 1)) (bAnd (bNotTab tabF (eSlc (eNm 0) (some (eNm 9)) (some (eBin .Add (eNm 9) (eNm 12))))) bTrue))
noncomputable def wRead_b4 : ST := (sSeq (sExp (eMeth isListV mPop (eNm 4) esNil)) (sSeq (sExp (eApp fLay (esCons (eNm 3) (esCons (eNm 1) (esCons (eInt 6) (esCons (eNm 8) esNil)))))) sPass))
noncomputable def wRead_t5 : BV := (bNot (bVal (eMeth isInstV fEqual (eIdx (eNm 4) (eNeg (eInt 1))) (esCons (eNm 11) esNil))))
noncomputable def wRead_b6 : ST := (sSeq (sIf (bCmp .IsNot (eNm 6) eNone) (sSeq (sIf (bCmp .Eq (eNm 10) (eStr [34])) (sSeq (sExp (eApp fLay (esCons (eNm 3) (esCons (eNm 1) (esCons (eInt 3) (esCons (eNm 6) esNil)))))) (sSeq (sAsg 6 eNone) sPass)) sPass) (sSeq sCont sPass)) sPass) (sSeq (sIf (bAnd (bVal (eNm 5)) (bAnd (bCmp .GtE (eNm 9) (eNm 7)) bTrue)) (sSeq (sAsg 11 (eApp (wsNew fInit) (esCons (eSlc (eNm 0) (some (eNm 9)) none) esNil))) (sSeq (sAsg 8 (eBin .Add (eNm 9) (eAttr 1 (eNm 11)))) (sSeq (sAsg 7 (eNm 8)) (sSeq (sIf (bCmp .Eq (eIdx (eNm 0) (eNm 8)) (eStr [10])) (sSeq (sExp (eApp fLay (esCons (eNm 3) (esCons (eNm 1) (esCons (eInt 63) (esCons (eNm 8) esNil)))))) (sSeq (sExp (eMeth isListV mAppend (eNm 3) (esCons (eList (esCons (eInt 258) (esCons (eMeth isListV mPop (eNm 3) esNil) esNil))) esNil))) (sSeq (sAsg 7 (eBin .Add (eNm 8) (eInt 1))) sPass))) (sSeq (sAsg 5 (eBool false)) (sSeq (sIf (bVal (eMeth isInstV fLess (eIdx (eNm 4) (eNeg (eInt 1))) (esCons (eNm 11) esNil))) (sSeq (sExp (eMeth isListV mAppend (eNm 4) (esCons (eNm 11) esNil))) (sSeq (sExp (eApp fLay (esCons (eNm 3) (esCons (eNm 1) (esCons (eInt 5) (esCons (eNm 9) esNil)))))) sPass)) sPass) (sSeq (sWhile wRead_t5 wRead_b4) sPass)))) sPass)))) sPass) (sSeq (sIf (bCmp .Lt (eNm 9) (eNm 7)) (sSeq sCont sPass) sPass) (sSeq (sIf (bCmp .Eq (eNm 10) (eStr [34])) (sSeq (sAsg 6 (eNm 9)) sPass) (sSeq (sIf (bCmp .Eq (eNm 10) (eStr [10])) (sSeq (sIf (bVal (eApp fCheck (esCons (eSlc (eNm 0) (some (eNm 8)) (some (eNm 9))) esNil))) (sSeq (sExp (eApp fLay (esCons (eNm 3) (esCons (eNm 1) (esCons (eInt 4) (esCons (eNm 9) esNil)))))) (sSeq (sAsg 5 (eBool true)) (sSeq (sAsg 7 (eBin .Add (eNm 9) (eInt 1))) sPass))) (sSeq (sExp (eApp fLay (esCons (eNm 3) (esCons (eNm 1) (esCons (eInt 63) (esCons (eNm 9) esNil)))))) sPass)) sPass) (sSeq (sIf (bCmp .In (eNm 10) (eList (esCons (eStr [97]) (esCons (eStr [98]) esNil)))) (sSeq (sExp (eApp fLay (esCons (eNm 3) (esCons (eNm 1) (esCons (eInt 1) (esCons (eNm 9) esNil)))))) sPass) (sSeq (sIf (bCmp .NotIn (eNm 10) (eList (esCons (eStr [32]) (esCons (eStr [9]) (esCons (eStr [92, 10]) esNil))))) (sSeq (sAsg 12 (eInt 3)) (sSeq (sWhile wRead_t3 wRead_b2) (sSeq (sExp (eApp fLay (esCons (eNm 3) (esCons (eNm 1) (esCons (eTab tabF (eSlc (eNm 0) (some (eNm 9)) (some (eBin .Add (eNm 9) (eNm 12))))) (esCons (eNm 9) esNil)))))) (sSeq (sAsg 7 (eBin .Add (eNm 9) (eNm 12))) sPass)))) sPass) sPass)) sPass)) sPass)) sPass))))
noncomputable def wRead_b7 : ST := (sSeq (sExp (eMeth isListV mAppend (eNm 1) (esCons (eBin .Add (eBin .Add (eIdx (eNm 1) (eNeg (eInt 1))) (eApp bLen (esCons (eNm 2) esNil))) (eInt 1)) esNil))) sPass)
noncomputable def wRead : ST := (sSeq (sAsg 1 (eList (esCons (eInt 0) esNil))) (sSeq (sForL (eMeth isStrV (mSplit splitF) (eNm 0) (esCons (eStr [10]) esNil)) (tNm 2) wRead_b7) (sSeq (sAsg 3 (eList esNil)) (sSeq (sAsg 4 (eList (esCons (eApp (wsNew fInit) (esCons (eStr []) esNil)) esNil))) (sSeq (sAsg 5 (eBool true)) (sSeq (sAsg 6 eNone) (sSeq (sAsg 7 (eInt 0)) (sSeq (sAsg 8 (eInt 0)) (sSeq (sForL (eLists (eNm 0)) (tPair 9 10) wRead_b6) (sSeq (sWhile wRead_t1 wRead_b0) (sSeq (sExp (eApp fLay (esCons (eNm 3) (esCons (eNm 1) (esCons (eInt 0) (esCons (eApp bLen (esCons (eNm 0) esNil)) esNil)))))) (sSeq (sRet (eNm 3)) sPass))))))))))))
noncomputable def fRead : FW := defW (inits 1 [] 12) wRead
theorem ss_Read {W : Wd} (h : Is W) (X : Fx) (ok : X.Ok W 3) (hcs : X.cs = scopeOf W.w.params 167) (hn : X.names = (["text"] : List Str) ++ (["starts", "row", "pile", "leads", "fresh", "mark", "after", "begin", "place", "unit", "lead", "size"] : List Str)) : TB W X (bodyOf W.w.params 167) wRead := by
  obtain ⟨A₀, base, outer, h₀, L, cn, cs, a, ccd, names, os, clx⟩ := X
  obtain rfl : cs = _ := hcs
  obtain rfl : names = _ := hn
  unfold wRead
  refine tb_cons ?_ ?_
  · refine t1_asg ok rfl ?_ rfl
    · refine te_list ?_
      · refine ta_cons ?_ ?_ rfl
        · exact te_int _ _ _
        · exact ta_nil
  · refine tb_cons ?_ ?_
    · refine t1_forL ok ?_ (ty_nm ok rfl) ?_ (fun _ => rfl)
      · refine te_meth ok ?_ ?_ tm_split (fun _ => rfl) rfl rfl
        · exact te_nm ok _ 0 rfl
        · refine tg_cons ⟨rfl, rfl⟩ ?_
          refine ta_cons ?_ ?_ rfl
          · exact te_str (by kernel_rfl) _ _
          · exact ta_nil
      · refine tb_cons ?_ ?_
        · refine t1_exp ?_ rfl rfl
          · refine te_meth ok ?_ ?_ tm_append (fun _ => rfl) rfl rfl
            · exact te_nm ok _ 1 rfl
            · refine tg_cons ⟨rfl, rfl⟩ ?_
              refine ta_cons ?_ ?_ rfl
              · refine te_bin ?_ ?_
                · refine te_bin ?_ ?_
                  · refine te_idx ?_ ?_ (fun _ _ => rfl)
                    · exact te_nm ok _ 1 rfl
                    · refine te_neg ?_
                      · exact te_int _ _ _
                  · refine te_app ok (g_B h n_len b_len (by decide) (by kernel_rfl) (by rfl)) (.builtin _) (to_len) ?_
                    · refine tg_cons ⟨rfl, rfl⟩ ?_
                      refine ta_cons ?_ ?_ rfl
                      · exact te_nm ok _ 2 rfl
                      · exact ta_nil
                · exact te_int _ _ _
              · exact ta_nil
        · exact tb_nil
    · refine tb_cons ?_ ?_
      · refine t1_asg ok rfl ?_ rfl
        · refine te_list ?_
          · exact ta_nil
      · refine tb_cons ?_ ?_
        · refine t1_asg ok rfl ?_ rfl
          · refine te_list ?_
            · refine ta_cons ?_ ?_ rfl
              · refine te_app ok (by rw [h.C]; exact g_K h k_ws (by kernel_rfl) (by rfl)) (.fn _ (keep_cls h)) (of_cls h (ok.mono (by decide))) ?_
                · refine tg_cons ⟨rfl, rfl⟩ ?_
                  refine ta_cons ?_ ?_ rfl
                  · exact te_str (by kernel_rfl) _ _
                  · exact ta_nil
              · exact ta_nil
        · refine tb_cons ?_ ?_
          · refine t1_asg ok rfl ?_ rfl
            · exact te_bool _ _ _
          · refine tb_cons ?_ ?_
            · refine t1_asg ok rfl ?_ rfl
              · exact te_none _ _
            · refine tb_cons ?_ ?_
              · refine t1_asg ok rfl ?_ rfl
                · exact te_int _ _ _
              · refine tb_cons ?_ ?_
                · refine t1_asg ok rfl ?_ rfl
                  · exact te_int _ _ _
                · refine tb_cons ?_ ?_
                  · refine t1_forL ok ?_ (ty_pair ok rfl rfl) ?_ (fun _ => rfl)
                    · refine te_lists h ok (g_K h k_esc (by kernel_rfl) (by rfl)) (g_B h n_list b_list (by decide) (by kernel_rfl) (by rfl)) ⟨rfl, rfl⟩ ?_ ⟨rfl, rfl⟩
                      · exact te_nm ok _ 0 rfl
                    · refine tb_cons ?_ ?_
                      · refine t1_if ?_ ?_ ?_
                        · refine tt_cmp ok ?_ ?_ rfl
                          · exact te_nm ok _ 6 rfl
                          · exact te_none _ _
                        · refine tb_cons ?_ ?_
                          · refine t1_if ?_ ?_ ?_
                            · refine tt_cmp ok ?_ ?_ rfl
                              · exact te_nm ok _ 10 rfl
                              · exact te_str (by kernel_rfl) _ _
                            · refine tb_cons ?_ ?_
                              · refine t1_exp ?_ rfl rfl
                                · refine te_app ok (g_K h k_lay (by kernel_rfl) (by rfl)) (.fn _ (keep_Lay h)) (of_Lay h (ok.mono (by decide))) ?_
                                  · refine tg_cons ⟨rfl, rfl⟩ ?_
                                    refine ta_cons ?_ ?_ rfl
                                    · exact te_nm ok _ 3 rfl
                                    · refine ta_cons ?_ ?_ rfl
                                      · exact te_nm ok _ 1 rfl
                                      · refine ta_cons ?_ ?_ rfl
                                        · exact te_int _ _ _
                                        · refine ta_cons ?_ ?_ rfl
                                          · exact te_nm ok _ 6 rfl
                                          · exact ta_nil
                              · refine tb_cons ?_ ?_
                                · refine t1_asg ok rfl ?_ rfl
                                  · exact te_none _ _
                                · exact tb_nil
                            · exact tb_nil
                          · refine tb_cons ?_ ?_
                            · exact t1_cont
                            · exact tb_nil
                        · exact tb_nil
                      · refine tb_cons ?_ ?_
                        · refine t1_if ?_ ?_ ?_
                          · refine tt_and ?_ ?_
                            · refine tt_val ?_ (fun _ => rfl)
                              · exact te_nm ok _ 5 rfl
                            · refine tt_and ?_ ?_
                              · refine tt_cmp ok ?_ ?_ rfl
                                · exact te_nm ok _ 9 rfl
                                · exact te_nm ok _ 7 rfl
                              · exact tt_nil
                          · refine tb_cons ?_ ?_
                            · refine t1_asg ok rfl ?_ rfl
                              · refine te_app ok (by rw [h.C]; exact g_K h k_ws (by kernel_rfl) (by rfl)) (.fn _ (keep_cls h)) (of_cls h (ok.mono (by decide))) ?_
                                · refine tg_cons ⟨rfl, rfl⟩ ?_
                                  refine ta_cons ?_ ?_ rfl
                                  · refine te_slc ?_ ?_ ?_
                                    · exact te_nm ok _ 0 rfl
                                    · refine tp_some ?_
                                      exact te_nm ok _ 9 rfl
                                    · exact tp_none
                                  · exact ta_nil
                            · refine tb_cons ?_ ?_
                              · refine t1_asg ok rfl ?_ rfl
                                · refine te_bin ?_ ?_
                                  · exact te_nm ok _ 9 rfl
                                  · refine te_attr ok (i := 1) ?_ rfl (at_n h) (fun _ => rfl)
                                    · exact te_nm ok _ 11 rfl
                              · refine tb_cons ?_ ?_
                                · refine t1_asg ok rfl ?_ rfl
                                  · exact te_nm ok _ 8 rfl
                                · refine tb_cons ?_ ?_
                                  · refine t1_if ?_ ?_ ?_
                                    · refine tt_cmp ok ?_ ?_ rfl
                                      · refine te_idx ?_ ?_ (fun _ _ => rfl)
                                        · exact te_nm ok _ 0 rfl
                                        · exact te_nm ok _ 8 rfl
                                      · exact te_str (by kernel_rfl) _ _
                                    · refine tb_cons ?_ ?_
                                      · refine t1_exp ?_ rfl rfl
                                        · refine te_app ok (g_K h k_lay (by kernel_rfl) (by rfl)) (.fn _ (keep_Lay h)) (of_Lay h (ok.mono (by decide))) ?_
                                          · refine tg_cons ⟨rfl, rfl⟩ ?_
                                            refine ta_cons ?_ ?_ rfl
                                            · exact te_nm ok _ 3 rfl
                                            · refine ta_cons ?_ ?_ rfl
                                              · exact te_nm ok _ 1 rfl
                                              · refine ta_cons ?_ ?_ rfl
                                                · exact te_int _ _ _
                                                · refine ta_cons ?_ ?_ rfl
                                                  · exact te_nm ok _ 8 rfl
                                                  · exact ta_nil
                                      · refine tb_cons ?_ ?_
                                        · refine t1_exp ?_ rfl rfl
                                          · refine te_meth ok ?_ ?_ tm_append (fun _ => rfl) rfl rfl
                                            · exact te_nm ok _ 3 rfl
                                            · refine tg_cons ⟨rfl, rfl⟩ ?_
                                              refine ta_cons ?_ ?_ rfl
                                              · refine te_list ?_
                                                · refine ta_cons ?_ ?_ rfl
                                                  · exact te_int _ _ _
                                                  · refine ta_cons ?_ ?_ rfl
                                                    · refine te_meth ok ?_ ?_ tm_pop (fun _ => rfl) rfl rfl
                                                      · exact te_nm ok _ 3 rfl
                                                      · exact tg_nil
                                                    · exact ta_nil
                                              · exact ta_nil
                                        · refine tb_cons ?_ ?_
                                          · refine t1_asg ok rfl ?_ rfl
                                            · refine te_bin ?_ ?_
                                              · exact te_nm ok _ 8 rfl
                                              · exact te_int _ _ _
                                          · exact tb_nil
                                    · refine tb_cons ?_ ?_
                                      · refine t1_asg ok rfl ?_ rfl
                                        · exact te_bool _ _ _
                                      · refine tb_cons ?_ ?_
                                        · refine t1_if ?_ ?_ ?_
                                          · refine tt_val ?_ (fun _ => rfl)
                                            · refine te_meth ok ?_ ?_ (tm_inst ok (im_Less h) (of_Less h (ok.mono (by decide)))) (fun _ => rfl) rfl rfl
                                              · refine te_idx ?_ ?_ (fun _ _ => rfl)
                                                · exact te_nm ok _ 4 rfl
                                                · refine te_neg ?_
                                                  · exact te_int _ _ _
                                              · refine tg_cons ⟨rfl, rfl⟩ ?_
                                                refine ta_cons ?_ ?_ rfl
                                                · exact te_nm ok _ 11 rfl
                                                · exact ta_nil
                                          · refine tb_cons ?_ ?_
                                            · refine t1_exp ?_ rfl rfl
                                              · refine te_meth ok ?_ ?_ tm_append (fun _ => rfl) rfl rfl
                                                · exact te_nm ok _ 4 rfl
                                                · refine tg_cons ⟨rfl, rfl⟩ ?_
                                                  refine ta_cons ?_ ?_ rfl
                                                  · exact te_nm ok _ 11 rfl
                                                  · exact ta_nil
                                            · refine tb_cons ?_ ?_
                                              · refine t1_exp ?_ rfl rfl
                                                · refine te_app ok (g_K h k_lay (by kernel_rfl) (by rfl)) (.fn _ (keep_Lay h)) (of_Lay h (ok.mono (by decide))) ?_
                                                  · refine tg_cons ⟨rfl, rfl⟩ ?_
                                                    refine ta_cons ?_ ?_ rfl
                                                    · exact te_nm ok _ 3 rfl
                                                    · refine ta_cons ?_ ?_ rfl
                                                      · exact te_nm ok _ 1 rfl
                                                      · refine ta_cons ?_ ?_ rfl
                                                        · exact te_int _ _ _
                                                        · refine ta_cons ?_ ?_ rfl
                                                          · exact te_nm ok _ 9 rfl
                                                          · exact ta_nil
                                              · exact tb_nil
                                          · exact tb_nil
                                        · refine tb_cons ?_ ?_
                                          · refine t1_while ?_ ?_
                                            · refine tt_not ?_
                                              · refine tt_val ?_ (fun _ => rfl)
                                                · refine te_meth ok ?_ ?_ (tm_inst ok (im_Equal h) (of_Equal h (ok.mono (by decide)))) (fun _ => rfl) rfl rfl
                                                  · refine te_idx ?_ ?_ (fun _ _ => rfl)
                                                    · exact te_nm ok _ 4 rfl
                                                    · refine te_neg ?_
                                                      · exact te_int _ _ _
                                                  · refine tg_cons ⟨rfl, rfl⟩ ?_
                                                    refine ta_cons ?_ ?_ rfl
                                                    · exact te_nm ok _ 11 rfl
                                                    · exact ta_nil
                                            · refine tb_cons ?_ ?_
                                              · refine t1_exp ?_ rfl rfl
                                                · refine te_meth ok ?_ ?_ tm_pop (fun _ => rfl) rfl rfl
                                                  · exact te_nm ok _ 4 rfl
                                                  · exact tg_nil
                                              · refine tb_cons ?_ ?_
                                                · refine t1_exp ?_ rfl rfl
                                                  · refine te_app ok (g_K h k_lay (by kernel_rfl) (by rfl)) (.fn _ (keep_Lay h)) (of_Lay h (ok.mono (by decide))) ?_
                                                    · refine tg_cons ⟨rfl, rfl⟩ ?_
                                                      refine ta_cons ?_ ?_ rfl
                                                      · exact te_nm ok _ 3 rfl
                                                      · refine ta_cons ?_ ?_ rfl
                                                        · exact te_nm ok _ 1 rfl
                                                        · refine ta_cons ?_ ?_ rfl
                                                          · exact te_int _ _ _
                                                          · refine ta_cons ?_ ?_ rfl
                                                            · exact te_nm ok _ 8 rfl
                                                            · exact ta_nil
                                                · exact tb_nil
                                          · exact tb_nil
                                  · exact tb_nil
                          · exact tb_nil
                        · refine tb_cons ?_ ?_
                          · refine t1_if ?_ ?_ ?_
                            · refine tt_cmp ok ?_ ?_ rfl
                              · exact te_nm ok _ 9 rfl
                              · exact te_nm ok _ 7 rfl
                            · refine tb_cons ?_ ?_
                              · exact t1_cont
                              · exact tb_nil
                            · exact tb_nil
                          · refine tb_cons ?_ ?_
                            · refine t1_if ?_ ?_ ?_
                              · refine tt_cmp ok ?_ ?_ rfl
                                · exact te_nm ok _ 10 rfl
                                · exact te_str (by kernel_rfl) _ _
                              · refine tb_cons ?_ ?_
                                · refine t1_asg ok rfl ?_ rfl
                                  · exact te_nm ok _ 9 rfl
                                · exact tb_nil
                              · refine tb_cons ?_ ?_
                                · refine t1_if ?_ ?_ ?_
                                  · refine tt_cmp ok ?_ ?_ rfl
                                    · exact te_nm ok _ 10 rfl
                                    · exact te_str (by kernel_rfl) _ _
                                  · refine tb_cons ?_ ?_
                                    · refine t1_if ?_ ?_ ?_
                                      · refine tt_val ?_ (fun _ => rfl)
                                        · refine te_app ok (g_K h k_check (by kernel_rfl) (by rfl)) (.fn _ (keep_Check h)) (of_Check h (ok.mono (by decide))) ?_
                                          · refine tg_cons ⟨rfl, rfl⟩ ?_
                                            refine ta_cons ?_ ?_ rfl
                                            · refine te_slc ?_ ?_ ?_
                                              · exact te_nm ok _ 0 rfl
                                              · refine tp_some ?_
                                                exact te_nm ok _ 8 rfl
                                              · refine tp_some ?_
                                                exact te_nm ok _ 9 rfl
                                            · exact ta_nil
                                      · refine tb_cons ?_ ?_
                                        · refine t1_exp ?_ rfl rfl
                                          · refine te_app ok (g_K h k_lay (by kernel_rfl) (by rfl)) (.fn _ (keep_Lay h)) (of_Lay h (ok.mono (by decide))) ?_
                                            · refine tg_cons ⟨rfl, rfl⟩ ?_
                                              refine ta_cons ?_ ?_ rfl
                                              · exact te_nm ok _ 3 rfl
                                              · refine ta_cons ?_ ?_ rfl
                                                · exact te_nm ok _ 1 rfl
                                                · refine ta_cons ?_ ?_ rfl
                                                  · exact te_int _ _ _
                                                  · refine ta_cons ?_ ?_ rfl
                                                    · exact te_nm ok _ 9 rfl
                                                    · exact ta_nil
                                        · refine tb_cons ?_ ?_
                                          · refine t1_asg ok rfl ?_ rfl
                                            · exact te_bool _ _ _
                                          · refine tb_cons ?_ ?_
                                            · refine t1_asg ok rfl ?_ rfl
                                              · refine te_bin ?_ ?_
                                                · exact te_nm ok _ 9 rfl
                                                · exact te_int _ _ _
                                            · exact tb_nil
                                      · refine tb_cons ?_ ?_
                                        · refine t1_exp ?_ rfl rfl
                                          · refine te_app ok (g_K h k_lay (by kernel_rfl) (by rfl)) (.fn _ (keep_Lay h)) (of_Lay h (ok.mono (by decide))) ?_
                                            · refine tg_cons ⟨rfl, rfl⟩ ?_
                                              refine ta_cons ?_ ?_ rfl
                                              · exact te_nm ok _ 3 rfl
                                              · refine ta_cons ?_ ?_ rfl
                                                · exact te_nm ok _ 1 rfl
                                                · refine ta_cons ?_ ?_ rfl
                                                  · exact te_int _ _ _
                                                  · refine ta_cons ?_ ?_ rfl
                                                    · exact te_nm ok _ 9 rfl
                                                    · exact ta_nil
                                        · exact tb_nil
                                    · exact tb_nil
                                  · refine tb_cons ?_ ?_
                                    · refine t1_if ?_ ?_ ?_
                                      · refine tt_cmp ok ?_ ?_ rfl
                                        · exact te_nm ok _ 10 rfl
                                        · refine te_list ?_
                                          · refine ta_cons ?_ ?_ rfl
                                            · exact te_str (by kernel_rfl) _ _
                                            · refine ta_cons ?_ ?_ rfl
                                              · exact te_str (by kernel_rfl) _ _
                                              · exact ta_nil
                                      · refine tb_cons ?_ ?_
                                        · refine t1_exp ?_ rfl rfl
                                          · refine te_app ok (g_K h k_lay (by kernel_rfl) (by rfl)) (.fn _ (keep_Lay h)) (of_Lay h (ok.mono (by decide))) ?_
                                            · refine tg_cons ⟨rfl, rfl⟩ ?_
                                              refine ta_cons ?_ ?_ rfl
                                              · exact te_nm ok _ 3 rfl
                                              · refine ta_cons ?_ ?_ rfl
                                                · exact te_nm ok _ 1 rfl
                                                · refine ta_cons ?_ ?_ rfl
                                                  · exact te_int _ _ _
                                                  · refine ta_cons ?_ ?_ rfl
                                                    · exact te_nm ok _ 9 rfl
                                                    · exact ta_nil
                                        · exact tb_nil
                                      · refine tb_cons ?_ ?_
                                        · refine t1_if ?_ ?_ ?_
                                          · refine tt_cmp ok ?_ ?_ rfl
                                            · exact te_nm ok _ 10 rfl
                                            · refine te_list ?_
                                              · refine ta_cons ?_ ?_ rfl
                                                · exact te_str (by kernel_rfl) _ _
                                                · refine ta_cons ?_ ?_ rfl
                                                  · exact te_str (by kernel_rfl) _ _
                                                  · refine ta_cons ?_ ?_ rfl
                                                    · exact te_str (by kernel_rfl) _ _
                                                    · exact ta_nil
                                          · refine tb_cons ?_ ?_
                                            · refine t1_asg ok rfl ?_ rfl
                                              · exact te_int _ _ _
                                            · refine tb_cons ?_ ?_
                                              · refine t1_while ?_ ?_
                                                · refine tt_and ?_ ?_
                                                  · refine tt_cmp ok ?_ ?_ rfl
                                                    · exact te_nm ok _ 12 rfl
                                                    · exact te_int _ _ _
                                                  · refine tt_and ?_ ?_
                                                    · refine tt_notTab ok (g_K h k_tab (by kernel_rfl) (by rfl)) (tab_ok h) ?_
                                                      · refine te_slc ?_ ?_ ?_
                                                        · exact te_nm ok _ 0 rfl
                                                        · refine tp_some ?_
                                                          exact te_nm ok _ 9 rfl
                                                        · refine tp_some ?_
                                                          refine te_bin ?_ ?_
                                                          · exact te_nm ok _ 9 rfl
                                                          · exact te_nm ok _ 12 rfl
                                                    · exact tt_nil
                                                · refine tb_cons ?_ ?_
                                                  · refine t1_asg ok rfl ?_ rfl
                                                    · refine te_bin ?_ ?_
                                                      · exact te_nm ok _ 12 rfl
                                                      · exact te_int _ _ _
                                                  · exact tb_nil
                                              · refine tb_cons ?_ ?_
                                                · refine t1_exp ?_ rfl rfl
                                                  · refine te_app ok (g_K h k_lay (by kernel_rfl) (by rfl)) (.fn _ (keep_Lay h)) (of_Lay h (ok.mono (by decide))) ?_
                                                    · refine tg_cons ⟨rfl, rfl⟩ ?_
                                                      refine ta_cons ?_ ?_ rfl
                                                      · exact te_nm ok _ 3 rfl
                                                      · refine ta_cons ?_ ?_ rfl
                                                        · exact te_nm ok _ 1 rfl
                                                        · refine ta_cons ?_ ?_ rfl
                                                          · refine te_tab ok (g_K h k_tab (by kernel_rfl) (by rfl)) (tab_ok h) ?_ (fun _ _ => rfl)
                                                            · refine te_slc ?_ ?_ ?_
                                                              · exact te_nm ok _ 0 rfl
                                                              · refine tp_some ?_
                                                                exact te_nm ok _ 9 rfl
                                                              · refine tp_some ?_
                                                                refine te_bin ?_ ?_
                                                                · exact te_nm ok _ 9 rfl
                                                                · exact te_nm ok _ 12 rfl
                                                          · refine ta_cons ?_ ?_ rfl
                                                            · exact te_nm ok _ 9 rfl
                                                            · exact ta_nil
                                                · refine tb_cons ?_ ?_
                                                  · refine t1_asg ok rfl ?_ rfl
                                                    · refine te_bin ?_ ?_
                                                      · exact te_nm ok _ 9 rfl
                                                      · exact te_nm ok _ 12 rfl
                                                  · exact tb_nil
                                          · exact tb_nil
                                        · exact tb_nil
                                    · exact tb_nil
                                · exact tb_nil
                            · exact tb_nil
                  · refine tb_cons ?_ ?_
                    · refine t1_while ?_ ?_
                      · refine tt_cmp ok ?_ ?_ rfl
                        · refine te_app ok (g_B h n_len b_len (by decide) (by kernel_rfl) (by rfl)) (.builtin _) (to_len) ?_
                          · refine tg_cons ⟨rfl, rfl⟩ ?_
                            refine ta_cons ?_ ?_ rfl
                            · exact te_nm ok _ 4 rfl
                            · exact ta_nil
                        · exact te_int _ _ _
                      · refine tb_cons ?_ ?_
                        · refine t1_exp ?_ rfl rfl
                          · refine te_meth ok ?_ ?_ tm_pop (fun _ => rfl) rfl rfl
                            · exact te_nm ok _ 4 rfl
                            · exact tg_nil
                        · refine tb_cons ?_ ?_
                          · refine t1_exp ?_ rfl rfl
                            · refine te_app ok (g_K h k_lay (by kernel_rfl) (by rfl)) (.fn _ (keep_Lay h)) (of_Lay h (ok.mono (by decide))) ?_
                              · refine tg_cons ⟨rfl, rfl⟩ ?_
                                refine ta_cons ?_ ?_ rfl
                                · exact te_nm ok _ 3 rfl
                                · refine ta_cons ?_ ?_ rfl
                                  · exact te_nm ok _ 1 rfl
                                  · refine ta_cons ?_ ?_ rfl
                                    · exact te_int _ _ _
                                    · refine ta_cons ?_ ?_ rfl
                                      · refine te_app ok (g_B h n_len b_len (by decide) (by kernel_rfl) (by rfl)) (.builtin _) (to_len) ?_
                                        · refine tg_cons ⟨rfl, rfl⟩ ?_
                                          refine ta_cons ?_ ?_ rfl
                                          · exact te_nm ok _ 0 rfl
                                          · exact ta_nil
                                      · exact ta_nil
                          · exact tb_nil
                    · refine tb_cons ?_ ?_
                      · refine t1_exp ?_ rfl rfl
                        · refine te_app ok (g_K h k_lay (by kernel_rfl) (by rfl)) (.fn _ (keep_Lay h)) (of_Lay h (ok.mono (by decide))) ?_
                          · refine tg_cons ⟨rfl, rfl⟩ ?_
                            refine ta_cons ?_ ?_ rfl
                            · exact te_nm ok _ 3 rfl
                            · refine ta_cons ?_ ?_ rfl
                              · exact te_nm ok _ 1 rfl
                              · refine ta_cons ?_ ?_ rfl
                                · exact te_int _ _ _
                                · refine ta_cons ?_ ?_ rfl
                                  · refine te_app ok (g_B h n_len b_len (by decide) (by kernel_rfl) (by rfl)) (.builtin _) (to_len) ?_
                                    · refine tg_cons ⟨rfl, rfl⟩ ?_
                                      refine ta_cons ?_ ?_ rfl
                                      · exact te_nm ok _ 0 rfl
                                      · exact ta_nil
                                  · exact ta_nil
                      · refine tb_cons ?_ ?_
                        · refine t1_ret ?_
                          · exact te_nm ok _ 3 rfl
                        · exact tb_nil
theorem df_Read : DefFacts 167 "_law_read" ["text"] ["starts", "row", "pile", "leads", "fresh", "mark", "after", "begin", "place", "unit", "lead", "size"] 1 [] := ⟨fun p => by kernel_rfl, fun p => by kernel_rfl, fun p => by kernel_rfl, fun p S vs' hl => by match vs', hl with | [a], _ => kernel_rfl, fun p => by kernel_rfl, fun p => by kernel_rfl, fun p => by kernel_rfl, fun p => by kernel_rfl, by decide +kernel⟩
theorem of_Read {W : Wd} (h : Is W) {X : Fx} (ok : X.Ok W 4) : TO W X (.ref 167) fRead := ⟨opf_def (mkDef h (dv := []) df_Read (fun p => by kernel_rfl) .nil rfl) (fun X ok hcs hn => (ss_Read h X ok hcs hn).h) ok⟩
theorem keep_Read {W : Wd} (h : Is W) : keepIn W.K (.ref 167) = true := by rw [h.K]; exact (show ∀ p, keepIn (hd.heap_1 p) (.ref 167) = true from fun p => by kernel_rfl) _

end Mine
end

noncomputable section -- L3a
open PySem PySem.W PySem.Calls PyProof.Rows
set_option maxRecDepth 100000
set_option autoImplicit false
namespace Mine

/-- the heap with more objects behind -/
noncomputable def Gr (h h' : List O) : Prop := ∃ t, h' = h ++ t
theorem Gr.refl (h : List O) : Gr h h := ⟨[], (List.append_nil h).symm⟩
theorem Gr.trans {a b c : List O} (x : Gr a b) (y : Gr b c) : Gr a c := by obtain ⟨t, rfl⟩ := x; obtain ⟨u, rfl⟩ := y; exact ⟨t ++ u, List.append_assoc ..⟩
theorem Gr.snoc (h : List O) (o : O) : Gr h (h ++ [o]) := ⟨[o], rfl⟩
theorem Gr.get {h h' : List O} (x : Gr h h') {k : Nat} {o : O} (e : h[k]? = some o) : h'[k]? = some o := by
  obtain ⟨t, rfl⟩ := x
  rw [List.getElem?_append_left (List.getElem?_eq_some_iff.mp e).1]; exact e
theorem Gr.len {h h' : List O} (x : Gr h h') : h.length ≤ h'.length := by obtain ⟨t, rfl⟩ := x; simp
theorem get_lt {h : List O} {k : Nat} {o : O} (e : h[k]? = some o) : k < h.length := (List.getElem?_eq_some_iff.mp e).1
theorem snoc_get (h : List O) (o : O) : (h ++ [o])[h.length]? = some o := List.getElem?_concat_length ..
theorem snoc_old {h : List O} {k : Nat} {o o' : O} (e : h[k]? = some o) : (h ++ [o'])[k]? = some o := (Gr.snoc h o').get e

/-- row and column of the end of a text -/
noncomputable def rowOf (t : List Nat) : Nat := t.count 10
noncomputable def colOf (t : List Nat) : Nat := (t.reverse.takeWhile (· ≠ 10)).length

theorem sm0 : small 0 := by unfold small; decide
theorem sm1 : small 1 := by unfold small; decide
theorem sm2 : small 2 := by unfold small; decide
theorem smn1 : small (-1) := by unfold small; decide
theorem cut_last (sg : List Nat) : (cut sg (some (-1)) none = [10]) ↔ sg.getLast? = some 10 := by
  unfold cut kms_lo kms_hi
  simp only [show ((-1 : Int) < 0) = True by simp, if_true]
  have h1 : (-(-1 : Int)).toNat = 1 := rfl
  rw [h1]
  rcases List.eq_nil_or_concat sg with rfl | ⟨ys, y, rfl⟩
  · simp
  · have : (ys ++ [y]).length - 1 = ys.length := by simp
    rw [List.concat_eq_append, this, List.drop_left]
    simp
theorem w_write {p : Nat} {n : Int} {sg text : List Nat} {row col : Int} {h : List O} {P : V → List O → Prop} (hp : h[p]? = some (O.list [.str text, .int row, .int col])) (hl : text.length + sg.length ≤ 2 ^ 20)
    (k : P (.ref h.length) ((h ++ [O.list [.int n, .int row, .int col]]).set p (O.list [.str (text ++ sg), .int (if sg.getLast? = some 10 then row + 1 else row), .int (if sg.getLast? = some 10 then 0 else col + sg.length)]))) :
    fWrite [.ref p, .int n, .str sg] h P := by
  unfold fWrite defW wWrite
  refine ⟨_, rfl, ?_⟩
  have hpl := get_lt hp
  have hp1 : (h ++ [O.list [.int n, .int row, .int col]])[p]? = some (O.list [.str text, .int row, .int col]) := snoc_old hp
  have hl1 : p < (h ++ [O.list [.int n, .int row, .int col]]).length := get_lt hp1
  have self : ∀ (g : List O) (a : O), p < g.length → (g.set p a)[p]? = some a := fun g a hg => List.getElem?_set_self hg
  refine ⟨_, rfl, _, rfl, _, _, ⟨.inl hp, sm1, rfl⟩, _, rfl, _, _, ⟨.inl hp, sm2, rfl⟩, by simp, ?_⟩
  refine ⟨_, rfl, _, _, ⟨.inl hp1, sm0, rfl⟩, _, rfl, hl, _, rfl, _, ⟨hp1, by simp, by simp, sm0⟩, ?_⟩
  have hp2 := self _ (O.list ([V.str text, .int row, .int col].set (Int.toNat 0) (.str (text ++ sg)))) hl1
  have hl2 := get_lt hp2
  refine ⟨_, rfl, _, _, ⟨.inl hp2, sm2, rfl⟩, _, rfl, by lia, _, rfl, _, ⟨hp2, by simp, by simp, sm2⟩, ?_⟩
  have hp3 := self _ (O.list (([V.str text, .int row, .int col].set (Int.toNat 0) (.str (text ++ sg))).set (Int.toNat 2) (.int (col + sg.length)))) hl2
  have hl3 := get_lt hp3
  refine ⟨_, rfl, by lia, ?_⟩
  show (match decide (cut sg (some (-1)) none = [10]) with | true => _ | false => _)
  by_cases hlast : sg.getLast? = some 10
  · rw [decide_eq_true ((cut_last sg).mpr hlast)]
    rw [if_pos hlast, if_pos hlast] at k
    refine ⟨_, rfl, _, _, ⟨.inl hp3, sm1, rfl⟩, _, rfl, _, ⟨hp3, by simp, by simp, sm1⟩, ?_⟩
    have hp4 := self _ (O.list ((([V.str text, .int row, .int col].set (Int.toNat 0) (.str (text ++ sg))).set (Int.toNat 2) (.int (col + sg.length))).set (Int.toNat 1) (.int (row + 1)))) hl3
    refine ⟨_, rfl, _, ⟨hp4, by simp, by simp, sm2⟩, _, rfl, ?_⟩
    show P _ _
    simpa using k
  · rw [decide_eq_false (fun q => hlast ((cut_last sg).mp q))]
    rw [if_neg hlast, if_neg hlast] at k
    refine ⟨_, rfl, ?_⟩
    show P _ _
    simpa using k
end Mine
end

noncomputable section -- L3b
open PySem PySem.W PySem.Calls PyProof.Rows
set_option maxRecDepth 100000
set_option autoImplicit false
namespace Mine

theorem Gr.set {h h' : List O} (x : Gr h h') {k : Nat} {o : O} (hk : h.length ≤ k) : Gr h (h'.set k o) := by
  obtain ⟨t, rfl⟩ := x
  exact ⟨t.set (k - h.length) o, by rw [List.set_append_right _ _ hk]⟩
theorem set_self {h : List O} {k : Nat} {o o' : O} (e : h[k]? = some o') : (h.set k o)[k]? = some o := List.getElem?_set_self (get_lt e)
theorem set_other {h : List O} {j k : Nat} {o : O} (ne : k ≠ j) : (h.set k o)[j]? = h[j]? := List.getElem?_set_ne ne

/-! leading white signs -/
structure WS where
  count : List Nat
  b : Nat
  n : Nat
  nt : Nat
noncomputable def bump (c : List Nat) (b : Nat) : List Nat :=
  let c' := if b ≥ c.length then c ++ List.replicate (b - c.length + 1) 0 else c
  c'.set b (c'.getD b 0 + 1)
noncomputable def wsStep (s : WS) (c : Nat) : WS := if c = 32 then { s with n := s.n + 1, b := s.b + 1 } else { count := bump s.count s.b, b := 0, n := s.n + 1, nt := s.nt + 1 }
noncomputable def ws0 : WS := ⟨[], 0, 0, 0⟩
noncomputable def wsOf (lead : List Nat) : WS := lead.foldl wsStep ws0
noncomputable def blank (c : Nat) : Prop := c = 32 ∨ c = 9

noncomputable def vis (c : List Nat) : List V := c.map fun (x : Nat) => V.int x
theorem vis_get (c : List Nat) (i : Nat) : (vis c)[i]? = (c[i]?).map fun (x : Nat) => V.int x := by unfold vis; simp
theorem vis_len (c : List Nat) : (vis c).length = c.length := by unfold vis; simp
theorem bump_len (c : List Nat) (b : Nat) : (bump c b).length = max c.length (b + 1) := by
  unfold bump
  simp only [List.length_set]
  split
  · simp; lia
  · lia

/-- the locals of __init__ in its loop -/
noncomputable def Lw (me : Nat) (ws : List Nat) (kc : Nat) (s : WS) (ch : Option V) : Loc := [some (.ref me), some (.str ws), some (.str [32]), some (.str [9]), some (.ref kc), some (.int s.b), some (.int s.n), some (.int s.nt), ch]
structure Iw (h₀ : List O) (me kc : Nat) (ws : List Nat) (s : WS) (h : List O) : Prop where
  gr : Gr h₀ h
  hme : h[me]? = some (O.inst [.str ws])
  hkc : h[kc]? = some (O.list (vis s.count))
  lm : h₀.length ≤ me
  lk : h₀.length ≤ kc
  ne : kc ≠ me

theorem init_turn {h₀ h : List O} {me kc : Nat} {ws : List Nat} {s : WS} {c : Nat} (I : Iw h₀ me kc ws s h) (hc : blank c) (hb : s.b ≤ 1000) (hcl : s.count.length ≤ 1001) {ch : Option V} {P : Out → Loc → List O → Prop}
    (k : ∀ kc' h', Iw h₀ me kc' ws (wsStep s c) h' → P .next (Lw me ws kc' (wsStep s c) (some (.str [c]))) h') : wInit_b0 (Lw me ws kc s (some (.str [c]))) h P := by
  unfold wInit_b0
  refine ⟨_, rfl, _, rfl, ?_⟩
  rcases hc with rfl | rfl
  · refine ⟨_, rfl, _, rfl, ?_⟩
    exact k kc h ⟨I.gr, I.hme, I.hkc, I.lm, I.lk, I.ne⟩
  · refine ⟨_, rfl, _, rfl, ?_⟩
    refine ⟨_, rfl, _, rfl, ?_⟩
    have hkl := get_lt I.hkc
    -- room for the run
    have last : ∀ (kc' : Nat) (h' : List O) (c' : List Nat), Gr h₀ h' → h'[me]? = some (O.inst [.str ws]) → h'[kc']? = some (O.list (vis c')) → h₀.length ≤ kc' → kc' ≠ me → s.b < c'.length → bump s.count s.b = c'.set s.b (c'.getD s.b 0 + 1) →
        sSeq (sPut (eBin .Add (eIdx (eNm 4) (eNm 5)) (eInt 1)) (eNm 4) (eNm 5)) (sSeq (sAsg 5 (eInt 0)) sPass) [some (.ref me), some (.str ws), some (.str [32]), some (.str [9]), some (.ref kc'), some (.int s.b), some (.int (s.n + 1)), some (.int (s.nt + 1)), some (.str [9])] h' P := by
      intro kc' h' c' g hme hkc' lk ne hlt hbump
      have hsm : small (s.b : Int) := by unfold small; lia
      have hget : (vis c')[s.b]? = some (.int (c'.getD s.b 0 : Nat)) := by
        rw [vis_get, List.getElem?_eq_getElem hlt]
        simp [List.getD, hlt]
      have hat : at? (vis c') (s.b : Int) = some (.int (c'.getD s.b 0 : Nat)) := by
        unfold at?
        rw [if_pos (by lia)]
        simpa using hget
      refine ⟨_, rfl, _, rfl, _, _, ⟨.inl hkc', hsm, hat⟩, _, rfl, _, rfl, _, ⟨hkc', by lia, by rw [vis_len]; lia, hsm⟩, ?_⟩
      have e1 : (vis c').set (Int.toNat (s.b : Int)) (.int ((c'.getD s.b 0 : Nat) + 1)) = vis (bump s.count s.b) := by
        rw [hbump]
        unfold vis
        rw [List.map_set]
        simp
      have := k kc' (h'.set kc' (O.list ((vis c').set (Int.toNat (s.b : Int)) (.int ((c'.getD s.b 0 : Nat) + 1))))) ⟨g.set lk, by rw [set_other ne]; exact hme, by rw [set_self hkc', e1]; rfl, I.lm, lk, ne⟩
      exact this
    refine ⟨_, rfl, _, rfl, _, ⟨.inl I.hkc, by rw [vis_len]; lia⟩, ?_⟩
    show (match decide (((vis s.count).length : Int) ≤ (s.b : Int)) with | true => _ | false => _)
    rw [vis_len]
    by_cases hge : s.count.length ≤ s.b
    · rw [decide_eq_true (by lia : ((s.count.length : Nat) : Int) ≤ (s.b : Int))]
      have k0 : h[kc]? = some (O.list (vis s.count)) := I.hkc
      have k1 : (h ++ [O.list [V.int 0]])[kc]? = some (O.list (vis s.count)) := snoc_old k0
      have k2 := snoc_get h (O.list [V.int 0])
      refine ⟨_, rfl, by simp, _, rfl, _, rfl, _, ⟨.inl k1, by rw [vis_len]; lia⟩, ?_⟩
      have hy : ((s.b : Int) - ((vis s.count).length : Int) + 1) = ((s.b - s.count.length + 1 : Nat) : Int) := by rw [vis_len]; lia
      refine ⟨_, ⟨k2, by rw [hy]; lia, by rw [hy]; lia, by simp⟩, ?_⟩
      have e0 : (List.replicate ((s.b : Int) - ((vis s.count).length : Int) + 1).toNat [V.int 0]).flatten = vis (List.replicate (s.b - s.count.length + 1) 0) := by
        rw [hy, Int.toNat_natCast]
        generalize s.b - s.count.length + 1 = q
        induction q with
        | zero => rfl
        | succ q ih => rw [List.replicate_succ, List.flatten_cons, ih]; rfl
      rw [e0]
      have k3 : (h ++ [O.list [V.int 0]] ++ [O.list (vis (List.replicate (s.b - s.count.length + 1) 0))])[kc]? = some (O.list (vis s.count)) := snoc_old k1
      have k4 := snoc_get (h ++ [O.list [V.int 0]]) (O.list (vis (List.replicate (s.b - s.count.length + 1) 0)))
      refine ⟨_, _, ⟨k3, k4, by rw [vis_len, vis_len, List.length_replicate]; lia⟩, ?_⟩
      have e2 : vis s.count ++ vis (List.replicate (s.b - s.count.length + 1) 0) = vis (s.count ++ List.replicate (s.b - s.count.length + 1) 0) := by unfold vis; rw [List.map_append]
      rw [e2]
      have gg : Gr h (h ++ [O.list [V.int 0]] ++ [O.list (vis (List.replicate (s.b - s.count.length + 1) 0))] ++ [O.list (vis (s.count ++ List.replicate (s.b - s.count.length + 1) 0))]) := ((Gr.snoc _ _).trans (Gr.snoc _ _)).trans (Gr.snoc _ _)
      have hml := get_lt I.hme
      refine last _ _ (s.count ++ List.replicate (s.b - s.count.length + 1) 0) (I.gr.trans gg) (gg.get I.hme) (snoc_get _ _) ?_ ?_ (by simp; lia) ?_
      · have := I.gr.len; simp; lia
      · simp; lia
      · unfold bump; simp only [ge_iff_le, if_pos hge]
    · rw [decide_eq_false (by lia : ¬ ((s.count.length : Nat) : Int) ≤ (s.b : Int))]
      exact last kc h s.count I.gr I.hme I.hkc I.lk I.ne (by lia) (by unfold bump; simp only [ge_iff_le, if_neg hge])
end Mine
end

noncomputable section -- L3c
open PySem PySem.W PySem.Calls PyProof.Rows
set_option maxRecDepth 100000
set_option autoImplicit false
namespace Mine

theorem wsStep_bound {s : WS} {c : Nat} {m : Nat} (hb : s.b ≤ m) (hc : s.count.length ≤ m + 1) : (wsStep s c).b ≤ m + 1 ∧ (wsStep s c).count.length ≤ m + 1 + 1 := by
  unfold wsStep
  split
  · exact ⟨by simp; lia, by simp; lia⟩
  · refine ⟨by simp, ?_⟩
    simp only [bump_len]; lia
theorem init_loop {h₀ : List O} {me : Nat} {ws : List Nat} {lead rest : List Nat} (hw : ws = lead ++ rest) (hlead : ∀ c ∈ lead, blank c) (hrest : ∀ c, rest.head? = some c → ¬ blank c) (hl : lead.length ≤ 1000) {P : Out → Loc → List O → Prop} :
    ∀ (r pre : List Nat) (kc : Nat) (h : List O) (ch : Option V), lead = pre ++ r → (wsOf pre).b ≤ pre.length → (wsOf pre).count.length ≤ pre.length + 1 → Iw h₀ me kc ws (wsOf pre) h →
      (∀ kc' ch' h', Iw h₀ me kc' ws (wsOf lead) h' → (wsOf lead).b ≤ 1000 → (wsOf lead).count.length ≤ 1001 → P .next (Lw me ws kc' (wsOf lead) ch') h') →
      forN (nxS ws) (tNm 8) wInit_b0 (r.length + 1) pre.length (Lw me ws kc (wsOf pre) ch) h P := by
  intro r
  induction r with
  | nil =>
    intro pre kc h ch hp hb hc I k
    have hp' : lead = pre := by rw [hp]; simp
    subst hp'
    refine ⟨_, rfl, ?_⟩
    have hget : ws[lead.length]? = rest.head? := by rw [hw, List.getElem?_append_right (Nat.le_refl _), Nat.sub_self, List.head?_eq_getElem?]
    rw [hget]
    cases hr : rest.head? with
    | none => exact k kc ch h I (by lia) (by lia)
    | some c =>
      have hnb := hrest c hr
      unfold blank at hnb
      have h32 : ¬ ([c] = [32]) := by simp; lia
      have h9 : ¬ ([c] = [9]) := by simp; lia
      show wInit_b0 (Lw me ws kc (wsOf lead) (some (.str [c]))) h _
      unfold wInit_b0
      refine ⟨_, rfl, _, rfl, ?_⟩
      show (match decide ([c] = [32]) with | true => _ | false => _)
      rw [decide_eq_false h32]
      refine ⟨_, rfl, _, rfl, ?_⟩
      show (match decide ([c] = [9]) with | true => _ | false => _)
      rw [decide_eq_false h9]
      exact k kc _ h I (by lia) (by lia)
  | cons c r ih =>
    intro pre kc h ch hp hb hc I k
    have hcm : c ∈ lead := by rw [hp]; simp
    have hlen : pre.length + (r.length + 1) = lead.length := by rw [hp]; simp
    refine ⟨_, rfl, ?_⟩
    have hget : ws[pre.length]? = some c := by rw [hw, hp]; simp
    rw [hget]
    show wInit_b0 (Lw me ws kc (wsOf pre) (some (.str [c]))) h _
    have hst : wsOf (pre ++ [c]) = wsStep (wsOf pre) c := by unfold wsOf; rw [List.foldl_append]; rfl
    obtain ⟨b1, b2⟩ := wsStep_bound (c := c) hb hc
    refine init_turn I (hlead c hcm) (by lia) (by lia) (ch := none) fun kc' h' I' => ?_
    show forN (nxS ws) (tNm 8) wInit_b0 (r.length + 1) (pre.length + 1) _ h' P
    have := ih (pre ++ [c]) kc' h' (some (.str [c])) (by rw [hp]; simp) (by rw [hst]; simpa using b1) (by rw [hst]; simpa using b2) (by rw [hst]; exact I') k
    rw [hst, List.length_append] at this
    exact this

/-- an object that stands for white signs -/
inductive IsWs (h : List O) (k : Nat) (s : WS) : Prop
  | mk (ws : List Nat) (kt kn : Nat) (_ : h[k]? = some (O.inst [.str ws, .int s.n, .int s.nt, .ref kn, .bool (decide (s.count.length ≤ 1))])) (_ : h[kn]? = some (O.tup [.ref kt, .int s.b])) (_ : h[kt]? = some (O.tup (vis s.count)))
theorem IsWs.gr {h h' : List O} (g : Gr h h') {k : Nat} {s : WS} : IsWs h k s → IsWs h' k s
  | ⟨ws, kt, kn, a, b, c⟩ => ⟨ws, kt, kn, g.get a, g.get b, g.get c⟩

theorem c_ws {ws lead rest : List Nat} (hw : ws = lead ++ rest) (hlead : ∀ c ∈ lead, blank c) (hrest : ∀ c, rest.head? = some c → ¬ blank c) (hl : lead.length ≤ 1000) {h : List O} {P : V → List O → Prop}
    (k : ∀ h', Gr h h' → IsWs h' h.length (wsOf lead) → P (.ref h.length) h') : wsNew fInit [.str ws] h P := by
  show fInit [.ref h.length, .str ws] (h ++ [O.inst []]) _
  unfold fInit defW wInit
  refine ⟨_, rfl, ?_⟩
  have i0 := snoc_get h (O.inst [])
  refine ⟨_, rfl, _, rfl, _, ⟨i0, rfl⟩, ?_⟩
  have i1 := set_self (o := O.inst [V.str ws]) i0
  refine ⟨by simp, ?_⟩
  refine ⟨_, _, snoc_get _ _, ?_⟩
  refine ⟨by simp, ?_⟩
  have g0 : Gr h ((h ++ [O.inst []]).set h.length (O.inst [V.str ws])) := (Gr.snoc _ _).set (Nat.le_refl _)
  have i2 := (Gr.snoc _ (O.tup [V.str [32], V.str [9]])).get i1
  have i3 := (Gr.snoc _ (O.list [])).get i2
  refine ⟨_, rfl, _, _, ⟨i3, rfl⟩, lead.length + 1, ?_⟩
  have I : Iw h h.length ((h ++ [O.inst []]).set h.length (O.inst [V.str ws]) ++ [O.tup [V.str [32], V.str [9]]]).length ws (wsOf []) ((h ++ [O.inst []]).set h.length (O.inst [V.str ws]) ++ [O.tup [V.str [32], V.str [9]]] ++ [O.list []]) :=
    ⟨(g0.trans (Gr.snoc _ _)).trans (Gr.snoc _ _), i3, snoc_get _ _, Nat.le_refl _, by simp, by simp⟩
  refine init_loop hw hlead hrest hl lead [] _ _ none rfl (Nat.le_refl _) (Nat.le_succ _) I fun kc ch h' I' hb hc => ?_
  -- the attributes
  have hml := get_lt I'.hme
  refine ⟨_, rfl, _, rfl, _, ⟨I'.hme, rfl⟩, ?_⟩
  have j1 := set_self (o := O.inst ([V.str ws] ++ [V.int (wsOf lead).n])) I'.hme
  refine ⟨_, rfl, _, rfl, _, ⟨j1, rfl⟩, ?_⟩
  have j2 := set_self (o := O.inst ([V.str ws] ++ [V.int (wsOf lead).n] ++ [V.int (wsOf lead).nt])) j1
  have kc2 : ((h'.set h.length (O.inst ([V.str ws] ++ [V.int (wsOf lead).n]))).set h.length (O.inst ([V.str ws] ++ [V.int (wsOf lead).n] ++ [V.int (wsOf lead).nt])))[kc]? = some (O.list (vis (wsOf lead).count)) := by
    rw [set_other (Ne.symm I'.ne), set_other (Ne.symm I'.ne)]; exact I'.hkc
  refine ⟨_, rfl, _, ⟨kc2, by rw [vis_len]; lia⟩, _, rfl, by simp, ?_⟩
  have t1 := snoc_get ((h'.set h.length (O.inst ([V.str ws] ++ [V.int (wsOf lead).n]))).set h.length (O.inst ([V.str ws] ++ [V.int (wsOf lead).n] ++ [V.int (wsOf lead).nt]))) (O.tup (vis (wsOf lead).count))
  have j3 := (Gr.snoc _ (O.tup (vis (wsOf lead).count))).get j2
  generalize hA : (h'.set h.length (O.inst ([V.str ws] ++ [V.int (wsOf lead).n]))).set h.length (O.inst ([V.str ws] ++ [V.int (wsOf lead).n] ++ [V.int (wsOf lead).nt])) = hh at *
  have gA : Gr h hh := by rw [← hA]; exact (I'.gr.set (Nat.le_refl _)).set (Nat.le_refl _)
  have j4 := (Gr.snoc _ (O.tup [V.ref hh.length, V.int (wsOf lead).b])).get j3
  refine ⟨_, rfl, _, ⟨j4, rfl⟩, ?_⟩
  have j5 := set_self (o := O.inst ([V.str ws] ++ [V.int (wsOf lead).n] ++ [V.int (wsOf lead).nt] ++ [V.ref (hh ++ [O.tup (vis (wsOf lead).count)]).length])) j4
  have kc3 : ((hh ++ [O.tup (vis (wsOf lead).count)] ++ [O.tup [V.ref hh.length, V.int (wsOf lead).b]]).set h.length (O.inst ([V.str ws] ++ [V.int (wsOf lead).n] ++ [V.int (wsOf lead).nt] ++ [V.ref (hh ++ [O.tup (vis (wsOf lead).count)]).length])))[kc]? = some (O.list (vis (wsOf lead).count)) := by
    rw [set_other (Ne.symm I'.ne)]
    exact ((Gr.snoc _ _).trans (Gr.snoc _ _)).get kc2
  refine ⟨_, rfl, _, ⟨.inl kc3, by rw [vis_len]; lia⟩, _, rfl, _, ⟨j5, rfl⟩, ?_⟩
  show P _ _
  have gB := ((gA.trans (Gr.snoc _ (O.tup (vis (wsOf lead).count)))).trans (Gr.snoc _ (O.tup [V.ref hh.length, V.int (wsOf lead).b])))
  refine k _ ((gB.set (Nat.le_refl _)).set (Nat.le_refl _)) ⟨ws, hh.length, (hh ++ [O.tup (vis (wsOf lead).count)]).length, ?_, ?_, ?_⟩
  · have := set_self (o := O.inst ([V.str ws] ++ [V.int (wsOf lead).n] ++ [V.int (wsOf lead).nt] ++ [V.ref (hh ++ [O.tup (vis (wsOf lead).count)]).length] ++ [V.bool (decide (((vis (wsOf lead).count).length : Int) ≤ 1))])) j5
    rw [vis_len] at this
    have e : decide (((wsOf lead).count.length : Int) ≤ 1) = decide ((wsOf lead).count.length ≤ 1) := by rw [decide_eq_decide]; lia
    rw [e] at this
    rw [vis_len, e]
    exact this
  · have hml2 := get_lt j2
    rw [set_other (by simp; lia), set_other (by simp; lia)]
    exact snoc_get _ _
  · have hml2 := get_lt j2
    rw [set_other (by lia), set_other (by lia)]
    exact (Gr.snoc _ _).get t1
end Mine
end

noncomputable section -- L3d
open PySem PySem.W PySem.Calls PyProof.Rows
set_option maxRecDepth 100000
set_option autoImplicit false
namespace Mine

theorem c_longest {h : List O} {k : Nat} {s : WS} (I : IsWs h k s) (hl : s.count.length ≤ 1001) {P : V → List O → Prop} (hP : P (.int (max ((s.count.length : Int) - 1) s.b)) h) : fLongest [.ref k] h P := by
  obtain ⟨ws, kt, kn, a, b, c⟩ := I
  unfold fLongest defW wLongest
  refine ⟨_, rfl, _, rfl, _, _, ⟨a, rfl⟩, _, _, .inl b, ?_⟩
  refine ⟨_, rfl, _, ⟨.inr c, by rw [vis_len]; lia⟩, _, rfl, ?_⟩
  rw [vis_len]
  exact hP
theorem dvs_vis (h : List O) : ∀ c : List Nat, DVs h (vis c) (c.map fun (x : Nat) => PyData.int x)
  | [] => .nil
  | _ :: r => .cons (.int _) (dvs_vis h r)
theorem lay_ints : ∀ c : List Nat, PyData.canLayAll0 (c.map fun (x : Nat) => PyData.int x) = true
  | [] => by simp [PyData.canLayAll0]
  | _ :: r => by rw [List.map_cons, PyData.canLayAll0, lay_ints r]; simp [PyData.canLay0]
theorem depth_ints : ∀ c : List Nat, PyData.depthAll (c.map fun (x : Nat) => PyData.int x) = 0
  | [] => by simp [PyData.depthAll]
  | _ :: r => by rw [List.map_cons, PyData.depthAll, depth_ints r]; simp [PyData.depth]
theorem mix_ints : ∀ c d : List Nat, SeqAt.noMixAll (c.map fun (x : Nat) => PyData.int x) (d.map fun (x : Nat) => PyData.int x) = true
  | [], [] => by simp [SeqAt.noMixAll]
  | [], _ :: _ => by simp [SeqAt.noMixAll]
  | _ :: _, [] => by simp [SeqAt.noMixAll]
  | _ :: r, _ :: q => by rw [List.map_cons, List.map_cons, SeqAt.noMixAll, mix_ints r q]; simp [SeqAt.noMix]
theorem same_ints : ∀ c d : List Nat, Spec.sameAll (c.map fun (x : Nat) => PyData.int x) (d.map fun (x : Nat) => PyData.int x) = decide (c = d)
  | [], [] => by simp [Spec.sameAll]
  | [], _ :: _ => by simp [Spec.sameAll]
  | _ :: _, [] => by simp [Spec.sameAll]
  | x :: r, y :: q => by
    rw [List.map_cons, List.map_cons, Spec.sameAll, same_ints r q]
    simp only [Spec.same]
    rw [Bool.eq_iff_iff]
    simp
    intro _
    lia
noncomputable def wsData (s : WS) : PyData := .tuple [.tuple (s.count.map fun (x : Nat) => PyData.int x), .int s.b]
theorem c_equal {h : List O} {j k : Nat} {s t : WS} (I : IsWs h j s) (J : IsWs h k t) {P : V → List O → Prop} (hP : P (.bool (decide (s.count = t.count ∧ s.b = t.b))) h) : fEqual [.ref j, .ref k] h P := by
  obtain ⟨ws, kt, kn, a, b, c⟩ := I
  obtain ⟨ws', kt', kn', a', b', c'⟩ := J
  unfold fEqual defW wEqual
  have sh : ∀ s : WS, SeqAt.shaped (wsData s) = true := fun s => by
    unfold SeqAt.shaped wsData
    simp [PyData.canLay0, PyData.canLayAll0, PyData.depth, PyData.depthAll, lay_ints, depth_ints]
  refine ⟨_, rfl, ?_⟩
  refine ⟨_, rfl, _, _, ⟨a, rfl⟩, _, rfl, _, _, ⟨a', rfl⟩, wsData s, wsData t, ⟨.tup b (.cons (.tup c (dvs_vis _ _)) (.cons (.int _) .nil)), .tup b' (.cons (.tup c' (dvs_vis _ _)) (.cons (.int _) .nil)), sh s, sh t, ?_⟩, ?_⟩
  · unfold wsData
    simp [SeqAt.noMix, SeqAt.noMixAll, mix_ints]
  · have e : Spec.same (wsData s) (wsData t) = decide (s.count = t.count ∧ s.b = t.b) := by
      unfold wsData
      simp only [Spec.same, Spec.sameAll, same_ints]
      rw [Bool.eq_iff_iff]
      simp
      intro _
      lia
    rw [e]
    exact hP

/-! indent_level -/
noncomputable def indSum (c : List Nat) (ts i : Nat) : Nat → Nat
  | 0 => 0
  | k + 1 => i / ts * c.getD i 0 + indSum c ts (i + 1) k
noncomputable def indentF (s : WS) (ts : Nat) : Nat := s.b + ts * (indSum s.count ts ts (s.count.length - ts) + s.nt)
theorem indSum_le (c : List Nat) (hc : ∀ x ∈ c, x ≤ 1000) (ts : Nat) : ∀ (k i : Nat), i + k ≤ 1001 → indSum c ts i k ≤ k * 1001000
  | 0, _, _ => Nat.zero_le _
  | k + 1, i, h => by
    have h1 := indSum_le c hc ts k (i + 1) (by lia)
    have h2 : c.getD i 0 ≤ 1000 := by
      unfold List.getD
      cases q : c[i]? with
      | none => simp
      | some x => exact hc x (List.mem_of_getElem? q)
    have h3 : i / ts ≤ 1001 := Nat.le_trans (Nat.div_le_self _ _) (by lia)
    have h4 : i / ts * c.getD i 0 ≤ 1001 * 1000 := Nat.mul_le_mul h3 h2
    show i / ts * c.getD i 0 + indSum c ts (i + 1) k ≤ _
    lia
structure SmallW (s : WS) : Prop where
  len : s.count.length ≤ 1001
  each : ∀ x ∈ s.count, x ≤ 1000
  nt : s.nt ≤ 1000
  b : s.b ≤ 1000
theorem c_indent {h : List O} {k : Nat} {s : WS} (I : IsWs h k s) (S : SmallW s) {ts : Nat} (h1 : 1 ≤ ts) (h2 : ts ≤ 2000) {P : V → List O → Prop} (hP : ∀ h', Gr h h' → P (.int (indentF s ts : Nat)) h') : fIndent [.ref k, .int ts] h P := by
  obtain ⟨ws, kt, kn, a, b, c⟩ := I
  have hl := S.len
  unfold fIndent defW wIndent
  refine ⟨_, rfl, ?_⟩
  refine ⟨_, rfl, _, _, ⟨a, rfl⟩, _, _, .inl b, ?_⟩
  refine ⟨_, rfl, _, rfl, _, ⟨.inr c, by rw [vis_len]; lia⟩, ?_⟩
  have g := Gr.snoc h (O.rng (ts : Int) ((vis s.count).length : Int))
  rw [vis_len] at g ⊢
  refine ⟨_, _, ⟨snoc_get _ _, by unfold small; lia, by unfold small; lia⟩, (s.count.length - ts) + 1, ?_⟩
  have a' := g.get a
  have c' := g.get c
  have hP' := hP _ g
  generalize h ++ [O.rng (ts : Int) (s.count.length : Int)] = hh at a' c' hP' ⊢
  -- the loop
  have loop : ∀ (q i : Nat) (il : Nat) (v : Option V), ts + i + q = max ts s.count.length → il ≤ i * 1001000 → il + indSum s.count ts (ts + i) q = indSum s.count ts ts (s.count.length - ts) →
      forN (nxR (ts : Int) (s.count.length : Int)) (tNm 5) wIndent_b0 (q + 1) i [some (.ref k), some (.int ts), some (.ref kt), some (.int s.b), some (.int il), v] hh
        (fun o l1 h1 => match o with
          | .next => sSeq (sRet (eBin .Add (eNm 3) (eBin .Mult (eNm 1) (eBin .Add (eNm 4) (eAttr 2 (eNm 0)))))) sPass l1 h1 (fun o _ h' => match o with | .ret v => P v h' | .next => P .none h' | _ => False)
          | o => (match o with | .ret v => P v h1 | .next => P .none h1 | _ => False)) := by
    intro q
    induction q with
    | zero =>
      intro i il v hq hil hs
      refine ⟨_, rfl, ?_⟩
      rw [if_neg (by lia)]
      have hs' : il = indSum s.count ts ts (s.count.length - ts) := hs
      have hil2 : il ≤ 1001 * 1001000 := by
        rw [hs']
        by_cases hq : ts ≤ s.count.length
        · exact Nat.le_trans (indSum_le _ S.each _ _ _ (by lia)) (Nat.mul_le_mul_right _ (by lia))
        · rw [show s.count.length - ts = 0 by lia]
          exact Nat.zero_le _
      have hnt := S.nt
      refine ⟨_, rfl, _, rfl, _, rfl, _, rfl, _, _, ⟨a', rfl⟩, ?_⟩
      refine ⟨by unfold small; lia, by unfold small; lia, ?_⟩
      have e : ((s.b : Int) + (ts : Int) * ((il : Int) + (s.nt : Int))) = ((indentF s ts : Nat) : Int) := by
        unfold indentF
        rw [← hs']
        push_cast
        rfl
      show P (.int ((s.b : Int) + (ts : Int) * ((il : Int) + (s.nt : Int)))) hh
      rw [e]
      exact hP'
    | succ q ih =>
      intro i il v hq hil hs
      have hlt : ts + i < s.count.length := by lia
      refine ⟨_, rfl, ?_⟩
      rw [if_pos (by lia)]
      have hget : at? (vis s.count) ((ts : Int) + (i : Int)) = some (.int (s.count.getD (ts + i) 0 : Nat)) := by
        unfold at?
        rw [if_pos (by lia)]
        have : ((ts : Int) + (i : Int)).toNat = ts + i := by lia
        rw [this, vis_get, List.getElem?_eq_getElem hlt]
        simp [List.getD, hlt]
      have hdiv : ((ts : Int) + (i : Int)).fdiv (ts : Int) = (((ts + i) / ts : Nat) : Int) := by
        rw [Int.fdiv_eq_ediv_of_nonneg _ (by lia)]
        push_cast
        rfl
      have hd : (ts + i) / ts ≤ 1001 := Nat.le_trans (Nat.div_le_self _ _) (by lia)
      have hg : s.count.getD (ts + i) 0 ≤ 1000 := by
        rw [List.getD, List.getElem?_eq_getElem hlt]
        exact S.each _ (List.getElem_mem hlt)
      show wIndent_b0 _ _ _
      unfold wIndent_b0
      refine ⟨_, rfl, _, rfl, _, rfl, ⟨by lia, by lia⟩, ?_⟩
      rw [hdiv]
      have sm : small (((ts + i) / ts : Nat) : Int) := by
        generalize (ts + i) / ts = dq at hd
        unfold small; lia
      have sm' : small ((s.count.getD (ts + i) 0 : Nat) : Int) := by
        generalize s.count.getD (ts + i) 0 = dq at hg
        unfold small; lia
      refine ⟨_, rfl, _, rfl, _, _, ⟨.inr c', by unfold small; lia, hget⟩, sm, sm', ?_⟩
      have e : ((il : Int) + (((ts + i) / ts : Nat) : Int) * ((s.count.getD (ts + i) 0 : Nat) : Int)) = ((il + (ts + i) / ts * s.count.getD (ts + i) 0 : Nat) : Int) := by push_cast; rfl
      have hm : (ts + i) / ts * s.count.getD (ts + i) 0 ≤ 1001 * 1000 := Nat.mul_le_mul hd hg
      have := ih (i + 1) (il + (ts + i) / ts * s.count.getD (ts + i) 0) (some (.int ((ts : Int) + (i : Int)))) (by lia) (by rw [Nat.succ_mul]; lia) (by
        have h5 : indSum s.count ts (ts + i) (q + 1) = (ts + i) / ts * s.count.getD (ts + i) 0 + indSum s.count ts (ts + i + 1) q := rfl
        rw [h5] at hs
        rw [← hs, show ts + (i + 1) = ts + i + 1 by lia]
        lia)
      rw [← e] at this
      exact this
  exact loop (s.count.length - ts) 0 0 none (by lia) (Nat.zero_le _) (by rw [Nat.zero_add]; rfl)
end Mine
end

noncomputable section -- L3e
open PySem PySem.W PySem.Calls PyProof.Rows
set_option maxRecDepth 100000
set_option autoImplicit false
namespace Mine

theorem c_less_no {h : List O} {j k : Nat} {s t : WS} (I : IsWs h j s) (J : IsWs h k t) (hn : t.n ≤ s.n) {P : V → List O → Prop} (hP : P (.bool false) h) : fLess [.ref j, .ref k] h P := by
  obtain ⟨ws, kt, kn, a, b, c⟩ := I
  obtain ⟨ws', kt', kn', a', b', c'⟩ := J
  unfold fLess defW wLess
  refine ⟨_, rfl, ?_⟩
  refine ⟨_, rfl, _, _, ⟨a, rfl⟩, _, rfl, _, _, ⟨a', rfl⟩, ?_⟩
  show (match decide ((t.n : Int) ≤ (s.n : Int)) with | true => _ | false => _)
  rw [decide_eq_true (by omega : (t.n : Int) ≤ (s.n : Int))]
  exact hP
theorem less_small {m : Nat} (h : m ≤ 1001) : small ((m : Int) + 1 + 1) := by unfold small; omega
theorem less_end {i m : Nat} (h : i + 0 = m) : ¬ (2 : Int) + i < (m : Int) + 1 + 1 := by omega
theorem less_in {i q m : Nat} (h : i + (q + 1) = m) : (2 : Int) + i < (m : Int) + 1 + 1 := by omega
theorem less_room {i q m : Nat} (h : i + (q + 1) = m) (hm : m ≤ 1001) : 2 + i ≤ 2000 := by omega
theorem c_less_yes {h : List O} {j k : Nat} {s t : WS} (I : IsWs h j s) (J : IsWs h k t) (S : SmallW s) (T : SmallW t) (hn : s.n < t.n) (hnt : s.nt ≤ t.nt) (hi : ∀ ts, 1 ≤ ts → indentF s ts < indentF t ts) {P : V → List O → Prop}
    (hP : ∀ h', Gr h h' → P (.bool true) h') : fLess [.ref j, .ref k] h P := by
  have I0 := I
  have J0 := J
  obtain ⟨ws, kt, kn, a, b, c⟩ := I
  obtain ⟨ws', kt', kn', a', b', c'⟩ := J
  have hsl := S.len
  have htl := T.len
  have hsb := S.b
  have htb := T.b
  unfold fLess defW wLess
  refine ⟨_, rfl, ?_⟩
  refine ⟨_, rfl, _, _, ⟨a, rfl⟩, _, rfl, _, _, ⟨a', rfl⟩, ?_⟩
  show (match decide ((t.n : Int) ≤ (s.n : Int)) with | true => _ | false => _)
  rw [decide_eq_false (by omega : ¬ (t.n : Int) ≤ (s.n : Int))]
  -- not both simple
  have slow : sSeq (sAsg 2 (eBin .Add (eApp bMax (esCons (eMeth isInstV fLongest (eNm 0) esNil) (esCons (eMeth isInstV fLongest (eNm 1) esNil) esNil))) (eInt 1))) (sSeq (sForR (eApp bRange (esCons (eInt 2) (esCons (eBin .Add (eNm 2) (eInt 1)) esNil))) (tNm 3) wLess_b0) (sSeq (sRet (eBool true)) sPass))
      [some (.ref j), some (.ref k), none, none] h (fun o _ h' => match o with | .ret v => P v h' | .next => P .none h' | _ => False) := by
    obtain ⟨m, hm, hm2⟩ : ∃ m : Nat, max (max ((s.count.length : Int) - 1) s.b) (max ((t.count.length : Int) - 1) t.b) = ((m : Nat) : Int) ∧ m ≤ 1001 := by
      clear hi hn hnt
      exact ⟨(max (max ((s.count.length : Int) - 1) s.b) (max ((t.count.length : Int) - 1) t.b)).toNat, by omega, by omega⟩
    refine ⟨_, rfl, ⟨j, _, rfl, a⟩, ?_⟩
    refine c_longest I0 hsl ?_
    refine ⟨_, rfl, ⟨k, _, rfl, a'⟩, ?_⟩
    refine c_longest J0 htl ?_
    suffices hs : ∀ M : Int, M = (m : Int) → sSeq (sForR (eApp bRange (esCons (eInt 2) (esCons (eBin .Add (eNm 2) (eInt 1)) esNil))) (tNm 3) wLess_b0) (sSeq (sRet (eBool true)) sPass) [some (.ref j), some (.ref k), some (.int (M + 1)), none] h
        (fun o _ h' => match o with | .ret v => P v h' | .next => P .none h' | _ => False) from hs _ hm
    intro M hM
    subst hM
    have g := Gr.snoc h (O.rng (2 : Int) ((m : Int) + 1 + 1))
    refine ⟨_, rfl, _, _, ⟨snoc_get _ _, by unfold small; decide, ?_⟩, m + 1, ?_⟩
    · exact less_small hm2
    have loop : ∀ (q i : Nat) (hh : List O) (v : Option V), Gr h hh → i + q = m →
        forN (nxR (2 : Int) ((m : Int) + 1 + 1)) (tNm 3) wLess_b0 (q + 1) i [some (.ref j), some (.ref k), some (.int ((m : Int) + 1)), v] hh
          (fun o l1 h1 => match o with
            | .next => sSeq (sRet (eBool true)) sPass l1 h1 (fun o _ h' => match o with | .ret v => P v h' | .next => P .none h' | _ => False)
            | o => (match o with | .ret v => P v h1 | .next => P .none h1 | _ => False)) := by
      intro q
      induction q with
      | zero =>
        intro i hh v hg hq
        refine ⟨_, rfl, ?_⟩
        rw [if_neg (less_end hq)]
        exact hP hh hg
      | succ q ih =>
        intro i hh v hg hq
        refine ⟨_, rfl, ?_⟩
        rw [if_pos (less_in hq)]
        rw [show (2 : Int) + (i : Int) = ((2 + i : Nat) : Int) from by push_cast; rfl]
        show wLess_b0 _ _ _
        unfold wLess_b0
        refine ⟨_, rfl, ⟨j, _, rfl, hg.get a⟩, _, rfl, ?_⟩
        have h21 : 1 ≤ 2 + i := Nat.le_add_right_of_le (by decide)
        have h22 : 2 + i ≤ 2000 := less_room hq hm2
        refine c_indent (I0.gr hg) S h21 h22 fun h1 g1 => ?_
        refine ⟨_, rfl, ⟨k, _, rfl, (hg.trans g1).get a'⟩, _, rfl, ?_⟩
        refine c_indent (J0.gr (hg.trans g1)) T h21 h22 fun h2 g2 => ?_
        have hlt := hi (2 + i) h21
        show (match decide (((indentF t (2 + i) : Nat) : Int) ≤ ((indentF s (2 + i) : Nat) : Int)) with | true => _ | false => _)
        rw [decide_eq_false (Int.not_le.mpr (Int.ofNat_lt.mpr hlt) : ¬ ((indentF t (2 + i) : Nat) : Int) ≤ ((indentF s (2 + i) : Nat) : Int))]
        exact ih (i + 1) h2 _ ((hg.trans g1).trans g2) ((Nat.succ_add_eq_add_succ i q).trans hq)
    exact loop m 0 _ none g (Nat.zero_add _)
  refine ⟨_, rfl, _, _, ⟨a, rfl⟩, ?_⟩
  show (match decide (s.count.length ≤ 1) with | true => _ | false => _)
  by_cases h1 : s.count.length ≤ 1
  · rw [decide_eq_true h1]
    refine ⟨_, rfl, _, _, ⟨a', rfl⟩, ?_⟩
    show (match decide (t.count.length ≤ 1) with | true => _ | false => _)
    by_cases h2 : t.count.length ≤ 1
    · rw [decide_eq_true h2]
      refine ⟨_, rfl, _, _, ⟨a, rfl⟩, _, rfl, _, _, ⟨a', rfl⟩, ?_⟩
      show P (.bool (decide ((s.nt : Int) ≤ (t.nt : Int)))) h
      rw [decide_eq_true (by omega : (s.nt : Int) ≤ (t.nt : Int))]
      exact hP h (Gr.refl h)
    · rw [decide_eq_false h2]
      exact slow
  · rw [decide_eq_false h1]
    exact slow
end Mine
end

noncomputable section -- L3f
open PySem PySem.W PySem.Calls PyProof.Rows
set_option maxRecDepth 100000
set_option autoImplicit false
namespace Mine

theorem escGo_len : ∀ (r : List Nat) (i : Nat) (e : Bool), escEnd e r = false → (escGo i e r).length ≤ r.length
  | [], i, e, h => by have : e = false := h; subst this; simp [escGo]
  | c :: r, i, true, h => by
    show (escGo (i + 1) false r).length + 1 ≤ r.length + 1
    have := escGo_len r (i + 1) false h
    lia
  | c :: r, i, false, h => by
    unfold escEnd at h
    show (if c = 92 then escGo (i + 1) true r else (i, [c]) :: escGo (i + 1) false r).length ≤ r.length + 1
    split
    · rename_i hc
      rw [decide_eq_true hc] at h
      have := escGo_len r (i + 1) true h
      lia
    · rename_i hc
      rw [decide_eq_false hc] at h
      have := escGo_len r (i + 1) false h
      simp only [List.length_cons]; lia

/-! the text without what stands in marks -/
structure SQ where
  start : Nat
  op : Option Nat
  res : List (List Nat)
noncomputable def sqStep (addr : List Nat) (s : SQ) (q : Nat × List Nat) : SQ := if q.2 = [34] then
    match s.op with
    | none => { s with op := some q.1 }
    | some o => { start := q.1 + 1, op := none, res := if s.start = o then s.res else s.res ++ [cut addr (some (s.start : Int)) (some (o : Int))] }
  else s
noncomputable def stripF (addr : List Nat) : List Nat := if 34 ∈ addr then
    let s := (escGo 0 false addr).foldl (sqStep addr) ⟨0, none, []⟩
    (if s.start < addr.length then s.res ++ [cut addr (some (s.start : Int)) none] else s.res).flatten
  else addr
noncomputable def opV : Option Nat → V
  | none => .none
  | some o => .int o
theorem cut_len {α : Type} (xs : List α) (lo hi : Option Int) : (cut xs lo hi).length ≤ xs.length := by
  unfold cut
  simp only [List.length_take, List.length_drop]
  lia

theorem c_strip {addr : List Nat} {h : List O} {P : V → List O → Prop} (hl : addr.length ≤ 1000) (he : escEnd false addr = false) (hP : ∀ h', Gr h h' → P (.str (stripF addr)) h') : fStrip [.str addr] h P := by
  unfold fStrip defW wStrip
  refine ⟨_, rfl, ?_⟩
  refine ⟨_, rfl, 34, rfl, ?_⟩
  show (match !decide (34 ∈ addr) with | true => _ | false => _)
  by_cases hm : 34 ∈ addr
  · rw [decide_eq_true hm]
    have hs : stripF addr = (let s := (escGo 0 false addr).foldl (sqStep addr) ⟨0, none, []⟩; (if s.start < addr.length then s.res ++ [cut addr (some (s.start : Int)) none] else s.res).flatten) := by
      unfold stripF; rw [if_pos hm]
    rw [hs] at hP
    refine ⟨by simp, ?_⟩
    refine ⟨_, rfl, he, ?_⟩
    have hn := escGo_len addr 0 false he
    -- the loop
    have loop : ∀ (r : List (Nat × List Nat)) (s : SQ) (hh : List O) (v w : Option V), Gr h hh → hh[h.length]? = some (O.list (s.res.map .str)) → s.res.length + r.length ≤ 1000 → (∀ x ∈ s.res, x.length ≤ addr.length) →
        forG (tPair 4 5) wStrip_b0 r [some (.str addr), some (.int s.start), some (opV s.op), some (.ref h.length), v, w] hh
          (fun o l1 h1 => match o with
            | .next => sSeq (sIf (bCmp .Lt (eNm 1) (eApp bLen (esCons (eNm 0) esNil))) (sSeq (sExp (eMeth isListV mAppend (eNm 3) (esCons (eSlc (eNm 0) (some (eNm 1)) none) esNil))) sPass) sPass) (sSeq (sRet (eMeth isStrV mJoin0 (eStr []) (esCons (eNm 3) esNil))) sPass) l1 h1 (fun o _ h' => match o with | .ret v => P v h' | .next => P .none h' | _ => False)
            | o => (match o with | .ret v => P v h1 | .next => P .none h1 | _ => False)) ∨ r.foldl (sqStep addr) s ≠ (escGo 0 false addr).foldl (sqStep addr) ⟨0, none, []⟩ := by
      intro r
      induction r with
      | nil =>
        intro s hh v w g hr hlen hall
        by_cases hend : s = (escGo 0 false addr).foldl (sqStep addr) ⟨0, none, []⟩
        · refine .inl ?_
          rw [← hend] at hP
          refine ⟨_, rfl, _, rfl, by lia, ?_⟩
          show (match decide ((s.start : Int) < (addr.length : Int)) with | true => _ | false => _)
          have fin : ∀ (res : List (List Nat)) (h' : List O), Gr h h' → h'[h.length]? = some (O.list (res.map .str)) → res.length ≤ 1001 → (∀ x ∈ res, x.length ≤ addr.length) → res.flatten = (if s.start < addr.length then s.res ++ [cut addr (some (s.start : Int)) none] else s.res).flatten →
              sSeq (sRet (eMeth isStrV mJoin0 (eStr []) (esCons (eNm 3) esNil))) sPass [some (.str addr), some (.int s.start), some (opV s.op), some (.ref h.length), v, w] h' (fun o _ h' => match o with | .ret v => P v h' | .next => P .none h' | _ => False) := by
            intro res h' g' hr' hl' ha' hf
            refine ⟨⟨_, rfl⟩, _, rfl, res, ⟨rfl, hr', ?_⟩, ?_⟩
            · have : ∀ (l : List (List Nat)), (∀ x ∈ l, x.length ≤ addr.length) → l.flatten.length ≤ l.length * addr.length := fun l => by
                induction l with
                | nil => intro _; simp
                | cons a l ih =>
                  intro hx
                  have h1 := hx a (.head _)
                  have h2 := ih fun x q => hx x (.tail _ q)
                  rw [List.flatten_cons, List.length_append, List.length_cons, Nat.succ_mul]
                  lia
              refine Nat.le_trans (this res ha') (Nat.le_trans (Nat.mul_le_mul hl' hl) (by decide))
            · show P (.str res.flatten) h'
              rw [hf]; exact hP h' g'
          by_cases hlt : s.start < addr.length
          · rw [decide_eq_true (by lia : (s.start : Int) < (addr.length : Int))]
            refine ⟨_, rfl, ⟨_, _, rfl, hr⟩, _, rfl, _, rfl, by lia, ?_⟩
            refine ⟨_, ⟨hr, by simp; lia⟩, ?_⟩
            refine fin (s.res ++ [cut addr (some (s.start : Int)) none]) _ (g.set (Nat.le_refl _)) ?_ (by simp at hlen ⊢; lia) (fun x hx => ?_) (by rw [if_pos hlt])
            · rw [set_self hr]; simp
            · rcases List.mem_append.mp hx with hx | hx
              · exact hall x hx
              · rw [List.mem_singleton.mp hx]; exact cut_len _ _ _
          · rw [decide_eq_false (by lia : ¬ (s.start : Int) < (addr.length : Int))]
            exact fin s.res hh g hr (by simp at hlen; lia) hall (by rw [if_neg hlt])
        · exact .inr hend
      | cons q r ih =>
        intro s hh v w g hr hlen hall
        obtain ⟨i, y⟩ := q
        simp only [List.length_cons] at hlen
        have g1 : Gr h (hh ++ [O.tup [.int i, .str y]]) := g.trans (Gr.snoc _ _)
        have hr1 := (Gr.snoc hh (O.tup [.int i, .str y])).get hr
        rw [List.foldl_cons]
        by_cases hy : y = [34]
        · subst hy
          cases ho : s.op with
          | none =>
            have e : sqStep addr s (i, [34]) = { s with op := some i } := by unfold sqStep; rw [if_pos rfl, ho]
            rw [e]
            rcases ih { s with op := some i } _ (some (.int i)) (some (.str [34])) g1 hr1 (by show s.res.length + r.length ≤ 1000; lia) hall with q | q
            · refine .inl ⟨_, _, .inl (snoc_get _ _), ?_⟩
              show wStrip_b0 _ _ _
              unfold wStrip_b0
              refine ⟨_, rfl, ?_⟩
              refine ⟨_, rfl, ?_⟩
              refine ⟨_, rfl, ?_⟩
              exact q
            · exact .inr q
          | some o =>
            have e : sqStep addr s (i, [34]) = { start := i + 1, op := none, res := if s.start = o then s.res else s.res ++ [cut addr (some (s.start : Int)) (some (o : Int))] } := by unfold sqStep; rw [if_pos rfl, ho]
            rw [e]
            by_cases hso : s.start = o
            · rcases ih { start := i + 1, op := none, res := s.res } _ (some (.int i)) (some (.str [34])) g1 hr1 (by show s.res.length + r.length ≤ 1000; lia) hall with q | q
              · refine .inl ⟨_, _, .inl (snoc_get _ _), ?_⟩
                show wStrip_b0 _ _ _
                unfold wStrip_b0
                refine ⟨_, rfl, ?_⟩
                refine ⟨_, rfl, ?_⟩
                refine ⟨_, rfl, .int o, rfl, ?_⟩
                show (match decide ((s.start : Int) ≠ (o : Int)) with | true => _ | false => _)
                rw [decide_eq_false (by lia : ¬ ((s.start : Int) ≠ (o : Int)))]
                refine ⟨_, rfl, ?_⟩
                exact q
              · rw [if_pos hso]; exact .inr q
            · have hset := set_self (o := O.list (s.res.map .str ++ [.str (cut addr (some (s.start : Int)) (some (o : Int)))])) hr1
              rcases ih { start := i + 1, op := none, res := s.res ++ [cut addr (some (s.start : Int)) (some (o : Int))] } _ (some (.int i)) (some (.str [34])) (g1.set (k := h.length) (o := O.list (s.res.map .str ++ [.str (cut addr (some (s.start : Int)) (some (o : Int)))])) (Nat.le_refl _)) (by rw [hset]; simp) (by simp; lia) (fun x hx => by
                  rcases List.mem_append.mp hx with hx | hx
                  · exact hall x hx
                  · rw [List.mem_singleton.mp hx]; exact cut_len _ _ _) with q | q
              · refine .inl ⟨_, _, .inl (snoc_get _ _), ?_⟩
                show wStrip_b0 _ _ _
                unfold wStrip_b0
                refine ⟨_, rfl, ?_⟩
                refine ⟨_, rfl, ?_⟩
                refine ⟨_, rfl, .int o, rfl, ?_⟩
                show (match decide ((s.start : Int) ≠ (o : Int)) with | true => _ | false => _)
                rw [decide_eq_true (by lia : ((s.start : Int) ≠ (o : Int)))]
                refine ⟨_, rfl, ⟨_, _, rfl, hr1⟩, _, rfl, _, rfl, .int o, rfl, by lia, ?_⟩
                refine ⟨_, ⟨hr1, by simp; lia⟩, ?_⟩
                refine ⟨_, rfl, ?_⟩
                exact q
              · rw [if_neg hso]; exact .inr q
        · have e : sqStep addr s (i, y) = s := by unfold sqStep; rw [if_neg hy]
          rw [e]
          rcases ih s _ (some (.int i)) (some (.str y)) g1 hr1 (by lia) hall with q | q
          · refine .inl ⟨_, _, .inl (snoc_get _ _), ?_⟩
            show wStrip_b0 _ _ _
            unfold wStrip_b0
            refine ⟨_, rfl, ?_⟩
            show (match decide (y = [34]) with | true => _ | false => _)
            rw [decide_eq_false hy]
            exact q
          · exact .inr q
    rcases loop (escGo 0 false addr) ⟨0, none, []⟩ (h ++ [O.list []]) none none (Gr.snoc _ _) (snoc_get _ _) (by simp; lia) (by simp) with q | q
    · exact q
    · exact absurd rfl q
  · rw [decide_eq_false hm]
    have hs : stripF addr = addr := by unfold stripF; rw [if_neg hm]
    rw [hs] at hP
    refine ⟨_, rfl, ?_⟩
    exact hP h (Gr.refl h)
end Mine
end

noncomputable section -- L3g
open PySem PySem.W PySem.Calls PyProof.Rows
set_option maxRecDepth 100000
set_option autoImplicit false
namespace Mine

/-- open brackets, none where one is closed too often -/
noncomputable def opensF : Int → List (Nat × List Nat) → Option Int
  | n, [] => some n
  | n, (_, y) :: r => if y = [40] then opensF (n + 1) r else if y = [41] then (if n - 1 < 0 then none else opensF (n - 1) r) else opensF n r
noncomputable def checkF (addr : List Nat) : Option Bool := (opensF 0 (escGo 0 false (stripF addr))).map fun n => decide (n = 0)
theorem c_check {addr : List Nat} {b : Bool} {h : List O} {P : V → List O → Prop} (hl : addr.length ≤ 1000) (he : escEnd false addr = false) (he2 : escEnd false (stripF addr) = false) (hb : checkF addr = some b) (hP : ∀ h', Gr h h' → P (.bool b) h') : fCheck [.str addr] h P := by
  unfold fCheck defW wCheck
  refine ⟨_, rfl, ?_⟩
  refine ⟨_, rfl, ?_⟩
  refine c_strip hl he fun h1 g1 => ?_
  refine ⟨_, rfl, he2, ?_⟩
  obtain ⟨n, hn, hnb⟩ : ∃ n, opensF 0 (escGo 0 false (stripF addr)) = some n ∧ decide (n = 0) = b := by
    unfold checkF at hb
    cases q : opensF 0 (escGo 0 false (stripF addr)) with
    | none => rw [q] at hb; cases hb
    | some n => rw [q] at hb; cases hb; exact ⟨n, rfl, rfl⟩
  have loop : ∀ (r : List (Nat × List Nat)) (m : Int) (hh : List O) (v w : Option V), Gr h hh → opensF m r = some n →
      forG (tPair 2 3) wCheck_b0 r [some (.str (stripF addr)), some (.int m), v, w] hh
        (fun o l1 h1 => match o with
          | .next => sSeq (sRet (eCmp .Eq (eNm 1) (eInt 0))) sPass l1 h1 (fun o _ h' => match o with | .ret v => P v h' | .next => P .none h' | _ => False)
          | o => (match o with | .ret v => P v h1 | .next => P .none h1 | _ => False)) := by
    intro r
    induction r with
    | nil =>
      intro m hh v w g hm
      cases hm
      refine ⟨_, rfl, ?_⟩
      show P (.bool (decide (n = 0))) hh
      rw [hnb]
      exact hP hh g
    | cons q r ih =>
      intro m hh v w g hm
      obtain ⟨i, y⟩ := q
      have g1 : Gr h (hh ++ [O.tup [.int i, .str y]]) := g.trans (Gr.snoc _ _)
      refine ⟨_, _, .inl (snoc_get _ _), ?_⟩
      show wCheck_b0 _ _ _
      unfold wCheck_b0
      refine ⟨_, rfl, ?_⟩
      show (match decide (y = [40]) with | true => _ | false => _)
      unfold opensF at hm
      by_cases h40 : y = [40]
      · rw [if_pos h40] at hm
        rw [decide_eq_true h40]
        refine ⟨_, rfl, ?_⟩
        exact ih (m + 1) _ _ _ g1 hm
      · rw [if_neg h40] at hm
        rw [decide_eq_false h40]
        refine ⟨_, rfl, ?_⟩
        show (match decide (y = [41]) with | true => _ | false => _)
        by_cases h41 : y = [41]
        · rw [if_pos h41] at hm
          by_cases hneg : m - 1 < 0
          · rw [if_pos hneg] at hm; cases hm
          · rw [if_neg hneg] at hm
            rw [decide_eq_true h41]
            refine ⟨_, rfl, ?_⟩
            refine ⟨_, rfl, ?_⟩
            show (match decide (m - 1 < 0) with | true => _ | false => _)
            rw [decide_eq_false hneg]
            exact ih (m - 1) _ _ _ g1 hm
        · rw [if_neg h41] at hm
          rw [decide_eq_false h41]
          exact ih m _ _ _ g1 hm
  exact loop _ 0 h1 none none g1 hn
end Mine
end

noncomputable section -- L3h
open PySem PySem.W PySem.Calls PyProof.Rows
set_option maxRecDepth 100000
set_option autoImplicit false
namespace Mine

theorem c_bisect {k r x : Nat} {st : List Nat} {h : List O} {P : V → List O → Prop} (hk : h[k]? = some (O.list (vis st))) (hl : st.length ≤ 2 ^ 16) (hr : r ≤ st.length) (lo : ∀ i y, i < r → st[i]? = some y → y ≤ x) (hi : ∀ i y, r ≤ i → st[i]? = some y → x < y)
    (hP : P (.int r) h) : fBisect [.ref k, .int x] h P := by
  unfold fBisect defW wBisect
  refine ⟨_, rfl, ?_⟩
  refine ⟨_, rfl, ?_⟩
  refine ⟨_, rfl, ?_⟩
  refine ⟨_, rfl, _, ⟨.inl hk, by rw [vis_len]; lia⟩, ?_⟩
  rw [vis_len]
  refine ⟨_, rfl, ?_⟩
  refine ⟨st.length + 1, ?_⟩
  have loop : ∀ (f a b : Nat) (m : Option V), b - a < f → a ≤ r → r ≤ b → b ≤ st.length →
      whileN wBisect_t1 wBisect_b0 f [some (.ref k), some (.int x), some (.int a), some (.int b), some .none, m] h
        (fun o l1 h1 => match o with
          | .next => sPass l1 h1 (fun o l1 h1 => match o with
            | .next => sSeq (sRet (eNm 2)) sPass l1 h1 (fun o _ h' => match o with | .ret v => P v h' | .next => P .none h' | _ => False)
            | o => (match o with | .ret v => P v h1 | .next => P .none h1 | _ => False))
          | o => (match o with | .next => sSeq (sRet (eNm 2)) sPass l1 h1 (fun o _ h' => match o with | .ret v => P v h' | .next => P .none h' | _ => False) | o => (match o with | .ret v => P v h1 | .next => P .none h1 | _ => False))) := by
    intro f
    induction f with
    | zero => intro a b m hf; lia
    | succ f ih =>
      intro a b m hf ha hb hbl
      refine ⟨_, rfl, _, rfl, ?_⟩
      show (match decide ((a : Int) < (b : Int)) with | false => _ | true => _)
      by_cases hab : a < b
      · rw [decide_eq_true (by lia : (a : Int) < (b : Int))]
        show wBisect_b0 _ _ _
        unfold wBisect_b0
        have hmid : ((a : Int) + (b : Int)).fdiv 2 = (((a + b) / 2 : Nat) : Int) := by
          rw [Int.fdiv_eq_ediv_of_nonneg _ (by lia)]; lia
        refine ⟨_, rfl, _, rfl, ⟨by lia, by lia⟩, ?_⟩
        rw [hmid]
        have hml : (a + b) / 2 < st.length := by lia
        have hget : at? (vis st) (((a + b) / 2 : Nat) : Int) = some (.int (st[(a + b) / 2] : Nat)) := by
          unfold at?
          rw [if_pos (by lia), Int.toNat_natCast, vis_get, List.getElem?_eq_getElem hml]
          rfl
        refine ⟨_, rfl, _, rfl, _, rfl, _, _, ⟨.inl hk, by unfold small; lia, hget⟩, ?_⟩
        show (match decide ((x : Int) < ((st[(a + b) / 2] : Nat) : Int)) with | true => _ | false => _)
        by_cases hx : x < st[(a + b) / 2]
        · rw [decide_eq_true (by lia : (x : Int) < ((st[(a + b) / 2] : Nat) : Int))]
          refine ⟨_, rfl, ?_⟩
          refine ih a ((a + b) / 2) _ (by lia) ha ?_ (by lia)
          rcases Nat.lt_or_ge ((a + b) / 2) r with q | q
          · have := lo _ _ q (List.getElem?_eq_getElem hml)
            lia
          · exact q
        · rw [decide_eq_false (by lia : ¬ (x : Int) < ((st[(a + b) / 2] : Nat) : Int))]
          refine ⟨_, rfl, ?_⟩
          refine ih ((a + b) / 2 + 1) b _ (by lia) ?_ hb hbl
          rcases Nat.lt_or_ge ((a + b) / 2) r with q | q
          · exact q
          · have := hi _ _ q (List.getElem?_eq_getElem hml)
            lia
      · rw [decide_eq_false (by lia : ¬ (a : Int) < (b : Int))]
        have : a = r := by lia
        subst this
        exact ⟨_, rfl, hP⟩
  exact loop (st.length + 1) 0 st.length none (by lia) (Nat.zero_le _) hr (Nat.le_refl _)
end Mine
end

noncomputable section -- L3i
open PySem PySem.W PySem.Calls PyProof.Rows
set_option maxRecDepth 100000
set_option autoImplicit false
namespace Mine

/-! trees of lists and ints -/
inductive T where
  | i (n : Int)
  | l (xs : List T)
noncomputable def tag : T → Int
  | .l (.i n :: _) => n
  | _ => 0

/-- the heap grown, but for some addresses -/
structure GrX (E : Nat → Prop) (h h' : List O) : Prop where
  keep : ∀ (k : Nat) (o : O), ¬ E k → h[k]? = some o → h'[k]? = some o
  len : h.length ≤ h'.length
theorem GrX.refl {E : Nat → Prop} (h : List O) : GrX E h h := ⟨fun _ _ _ e => e, Nat.le_refl _⟩
theorem GrX.trans {E : Nat → Prop} {a b c : List O} (x : GrX E a b) (y : GrX E b c) : GrX E a c := ⟨fun k o n e => y.keep k o n (x.keep k o n e), Nat.le_trans x.len y.len⟩
theorem GrX.of {E : Nat → Prop} {a b : List O} (x : Gr a b) : GrX E a b := ⟨fun _ _ _ e => x.get e, x.len⟩
theorem GrX.set {E : Nat → Prop} {a b : List O} (x : GrX E a b) {k : Nat} {o : O} (hk : E k ∨ a.length ≤ k) : GrX E a (b.set k o) := by
  refine ⟨fun j p n e => ?_, by rw [List.length_set]; exact x.len⟩
  have ne : k ≠ j := by
    rintro rfl
    rcases hk with q | q
    · exact n q
    · exact absurd (get_lt e) (Nat.not_lt.mpr q)
  rw [set_other ne]
  exact x.keep j p n e
theorem GrX.weak {E E' : Nat → Prop} {a b : List O} (x : GrX E a b) (h : ∀ k, E k → E' k) : GrX E' a b := ⟨fun k o n e => x.keep k o (fun q => n (h k q)) e, x.len⟩

mutual
/-- a value that stands for a tree and reaches no address of M -/
inductive TV (hp : List O) (M : Nat → Prop) : V → T → Prop
  | i (n : Int) : TV hp M (.int n) (.i n)
  | l {k : Nat} {xs : List V} {ts : List T} : ¬ M k → hp[k]? = some (O.list xs) → TVs hp M xs ts → TV hp M (.ref k) (.l ts)
inductive TVs (hp : List O) (M : Nat → Prop) : List V → List T → Prop
  | nil : TVs hp M [] []
  | cons {v : V} {t : T} {vs : List V} {ts : List T} : TV hp M v t → TVs hp M vs ts → TVs hp M (v :: vs) (t :: ts)
end
section
variable {hp hp' : List O} {M M' : Nat → Prop}
mutual
theorem TV.step (g : ∀ (k : Nat) (o : O), ¬ M k → hp[k]? = some o → hp'[k]? = some o) (m : ∀ k, k < hp.length → M' k → M k) : ∀ {v : V} {t : T}, TV hp M v t → TV hp' M' v t
  | _, _, .i n => .i n
  | _, _, .l n e ts => .l (fun q => n (m _ (get_lt e) q)) (g _ _ n e) (TVs.step g m ts)
theorem TVs.step (g : ∀ (k : Nat) (o : O), ¬ M k → hp[k]? = some o → hp'[k]? = some o) (m : ∀ k, k < hp.length → M' k → M k) : ∀ {vs : List V} {ts : List T}, TVs hp M vs ts → TVs hp' M' vs ts
  | _, _, .nil => .nil
  | _, _, .cons a b => .cons (TV.step g m a) (TVs.step g m b)
end
theorem TVs.append : ∀ {a b : List V} {x y : List T}, TVs hp M a x → TVs hp M b y → TVs hp M (a ++ b) (x ++ y)
  | _, _, _, _, .nil, h => h
  | _, _, _, _, .cons p q, h => .cons p (TVs.append q h)
theorem TVs.length : ∀ {a : List V} {x : List T}, TVs hp M a x → a.length = x.length
  | _, _, .nil => rfl
  | _, _, .cons _ q => by simp [TVs.length q]
theorem TVs.split : ∀ {x y : List T} {a : List V}, TVs hp M a (x ++ y) → ∃ b c, a = b ++ c ∧ TVs hp M b x ∧ TVs hp M c y
  | [], _, a, h => ⟨[], a, rfl, .nil, h⟩
  | _ :: x, y, _, .cons p q => by
    obtain ⟨b, c, rfl, h1, h2⟩ := TVs.split q
    exact ⟨_ :: b, c, rfl, .cons p h1, h2⟩
theorem TVs.one {v : V} {t : T} (h : TV hp M v t) : TVs hp M [v] [t] := .cons h .nil
theorem TVs.snoc {a : List V} {x : List T} {t : T} (h : TVs hp M a (x ++ [t])) : ∃ b v, a = b ++ [v] ∧ TVs hp M b x ∧ TV hp M v t := by
  obtain ⟨b, c, rfl, h1, h2⟩ := TVs.split h
  cases h2 with
  | cons p q => cases q; exact ⟨b, _, rfl, h1, p⟩
end

/-! trees as data -/
mutual
noncomputable def dataOf : T → PyData
  | .i n => .int n
  | .l xs => .list (dataAll xs)
noncomputable def dataAll : List T → List PyData
  | [] => []
  | x :: r => dataOf x :: dataAll r
end
mutual
theorem TV.dv {hp : List O} {M : Nat → Prop} : ∀ {v : V} {t : T}, TV hp M v t → DV hp v (dataOf t)
  | _, _, .i n => by unfold dataOf; exact .int n
  | _, _, .l _ e ts => by unfold dataOf; exact .list e (TVs.dv ts)
theorem TVs.dv {hp : List O} {M : Nat → Prop} : ∀ {v : List V} {t : List T}, TVs hp M v t → DVs hp v (dataAll t)
  | _, _, .nil => by unfold dataAll; exact .nil
  | _, _, .cons a b => by unfold dataAll; exact .cons (TV.dv a) (TVs.dv b)
end
mutual
theorem lay_T : ∀ t : T, PyData.canLay0 (dataOf t) = true
  | .i n => by unfold dataOf; simp [PyData.canLay0]
  | .l xs => by unfold dataOf; rw [PyData.canLay0]; exact lay_Ts xs
theorem lay_Ts : ∀ t : List T, PyData.canLayAll0 (dataAll t) = true
  | [] => by unfold dataAll; simp [PyData.canLayAll0]
  | x :: r => by unfold dataAll; rw [PyData.canLayAll0, lay_T x, lay_Ts r]; rfl
end
mutual
theorem mix_T : ∀ t u : T, SeqAt.noMix (dataOf t) (dataOf u) = true
  | .i n, .i m => by unfold dataOf; simp [SeqAt.noMix]
  | .i n, .l ys => by unfold dataOf; simp [SeqAt.noMix]
  | .l xs, .i m => by unfold dataOf; simp [SeqAt.noMix]
  | .l xs, .l ys => by unfold dataOf; rw [SeqAt.noMix]; exact mix_Ts xs ys
theorem mix_Ts : ∀ t u : List T, SeqAt.noMixAll (dataAll t) (dataAll u) = true
  | [], [] => by unfold dataAll; simp [SeqAt.noMixAll]
  | [], _ :: _ => by simp [dataAll, SeqAt.noMixAll]
  | _ :: _, [] => by simp [dataAll, SeqAt.noMixAll]
  | x :: r, y :: q => by simp only [dataAll]; rw [SeqAt.noMixAll, mix_T x y, mix_Ts r q]; rfl
end
mutual
noncomputable def depT : T → Nat
  | .i _ => 0
  | .l xs => depTs xs + 1
noncomputable def depTs : List T → Nat
  | [] => 0
  | x :: r => max (depT x) (depTs r)
end
mutual
theorem dep_T : ∀ t : T, PyData.depth (dataOf t) = depT t
  | .i n => by unfold dataOf depT; simp [PyData.depth]
  | .l xs => by unfold dataOf depT; rw [PyData.depth, dep_Ts xs]
theorem dep_Ts : ∀ t : List T, PyData.depthAll (dataAll t) = depTs t
  | [] => by unfold dataAll depTs; simp [PyData.depthAll]
  | x :: r => by unfold dataAll depTs; rw [PyData.depthAll, dep_T x, dep_Ts r]
end
theorem shaped_T {t : T} (h : depT t ≤ 64) : SeqAt.shaped (dataOf t) = true := by
  unfold SeqAt.shaped
  rw [lay_T, dep_T]
  simpa using h
mutual
theorem same_T : ∀ t : T, Spec.same (dataOf t) (dataOf t) = true
  | .i n => by unfold dataOf; simp [Spec.same]
  | .l xs => by unfold dataOf; rw [Spec.same]; exact same_Ts xs
theorem same_Ts : ∀ t : List T, Spec.sameAll (dataAll t) (dataAll t) = true
  | [] => by unfold dataAll; simp [Spec.sameAll]
  | x :: r => by unfold dataAll; rw [Spec.sameAll, same_T x, same_Ts r]; rfl
end
end Mine
end

noncomputable section -- L3j
open PySem PySem.W PySem.Calls PyProof.Rows
set_option maxRecDepth 100000
set_option autoImplicit false
namespace Mine

theorem c_term {n : Int} {h : List O} {P : V → List O → Prop} (hP : P (.bool (decide (n < 256))) h) : fTerm [.int n] h P := ⟨_, rfl, _, rfl, hP⟩
theorem c_nonterm {n : Int} {h : List O} {P : V → List O → Prop} (hP : P (.bool (decide (256 ≤ n))) h) : fNonterm [.int n] h P := ⟨_, rfl, _, rfl, hP⟩
theorem c_eof {n : Int} {h : List O} {P : V → List O → Prop} (hP : P (.bool (decide (n = 0))) h) : fEof [.int n] h P := ⟨_, rfl, _, rfl, hP⟩

theorem lay_pop {kp kn : Nat} {vs ns : List V} {v : V} {h : List O} {x1 x2 x3 x4 x5 : Option V} {P : Out → Loc → List O → Prop} (hp : h[kp]? = some (O.list (vs ++ [v]))) (hn : h[kn]? = some (O.list ns)) (ne : kp ≠ kn) (hl : vs.length ≤ 2 ^ 20) (hl' : ns.length ≤ 2 ^ 20)
    (hP : P .next [some (.ref kp), x1, x2, x3, x4, x5, some (.ref kn)] ((h.set kp (O.list vs)).set kn (O.list (v :: ns)))) : wLay_b0 [some (.ref kp), x1, x2, x3, x4, x5, some (.ref kn)] h P := by
  unfold wLay_b0
  refine ⟨_, rfl, ⟨_, _, rfl, hn⟩, ?_⟩
  refine ⟨_, rfl, ⟨_, _, rfl, hp⟩, ?_⟩
  refine ⟨vs, v, ⟨hp, hl⟩, ?_⟩
  refine ⟨ns, ⟨rfl, by rw [set_other ne]; exact hn, hl'⟩, ?_⟩
  exact hP

/-- the pile and the node while the node is filled -/
structure Il (h : List O) (M : Nat → Prop) (kp kn : Nat) (pile node : List T) (h' : List O) : Prop where
  g : GrX (fun k => k = kp) h h'
  p : ∃ vs, h'[kp]? = some (O.list vs) ∧ TVs h' (fun k => M k ∨ k = kn) vs pile
  n : ∃ ns, h'[kn]? = some (O.list ns) ∧ TVs h' (fun k => M k ∨ k = kn) ns node
  mp : M kp
  ln : h.length ≤ kn
  lm : ∀ k, M k → k < h.length
  size : pile.length + node.length ≤ 2 ^ 20
theorem Il.ne {h h' : List O} {M : Nat → Prop} {kp kn : Nat} {pile node : List T} (I : Il h M kp kn pile node h') : kp ≠ kn := by
  have := I.lm _ I.mp
  have := I.ln
  lia
theorem lay_turn {h h' : List O} {M : Nat → Prop} {kp kn : Nat} {pile node : List T} {t : T} {x1 x2 x3 x4 x5 : Option V} {P : Out → Loc → List O → Prop} (I : Il h M kp kn (pile ++ [t]) node h')
    (hP : ∀ h'', Il h M kp kn pile (t :: node) h'' → P .next [some (.ref kp), x1, x2, x3, x4, x5, some (.ref kn)] h'') : wLay_b0 [some (.ref kp), x1, x2, x3, x4, x5, some (.ref kn)] h' P := by
  obtain ⟨vs0, hp, tp⟩ := I.p
  obtain ⟨vs, v, rfl, tp1, tv⟩ := tp.snoc
  obtain ⟨ns, hn, tn⟩ := I.n
  have ne := I.ne
  have l1 := tp1.length
  have l2 := tn.length
  have sz := I.size
  simp only [List.length_append, List.length_cons, List.length_nil] at sz
  refine lay_pop hp hn ne (by lia) (by lia) (hP _ ?_)
  have keep : ∀ (k : Nat) (o : O), ¬ (M k ∨ k = kn) → h'[k]? = some o → ((h'.set kp (O.list vs)).set kn (O.list (v :: ns)))[k]? = some o := fun k o hk e => by
    have h1 : kn ≠ k := fun q => hk (.inr q.symm)
    have h2 : kp ≠ k := fun q => hk (.inl (q ▸ I.mp))
    rw [set_other h1, set_other h2]; exact e
  refine ⟨(I.g.set (.inl rfl)).set (.inr I.ln), ⟨vs, ?_, tp1.step keep fun _ _ q => q⟩, ⟨v :: ns, ?_, .cons (tv.step keep fun _ _ q => q) (tn.step keep fun _ _ q => q)⟩, I.mp, I.ln, I.lm, by simp; lia⟩
  · rw [set_other (Ne.symm ne)]
    exact set_self hp
  · exact set_self (h := h'.set kp (O.list vs)) (o' := O.list ns) (by rw [set_other ne]; exact hn)
theorem lay_turnE {h h' : List O} {M : Nat → Prop} {kp kn : Nat} {pile node : List T} {t : T} {x1 x2 x3 x4 x5 : Option V} {P : Out → Loc → List O → Prop} (I : Il h M kp kn (pile ++ [t]) node h')
    (hP : ∀ h'', Il h M kp kn pile (t :: node) h'' → P .next [some (.ref kp), x1, x2, x3, x4, x5, some (.ref kn)] h'') : sExp (eMeth isListV mInsert0 (eNm 6) (esCons (eInt 0) (esCons (eMeth isListV mPop (eNm 0) esNil) esNil))) [some (.ref kp), x1, x2, x3, x4, x5, some (.ref kn)] h' P := by
  obtain ⟨vs0, hp, tp⟩ := I.p
  obtain ⟨vs, v, rfl, tp1, tv⟩ := tp.snoc
  obtain ⟨ns, hn, tn⟩ := I.n
  have ne := I.ne
  have l1 := tp1.length
  have l2 := tn.length
  have sz := I.size
  simp only [List.length_append, List.length_cons, List.length_nil] at sz
  refine ⟨_, rfl, ⟨_, _, rfl, hn⟩, _, rfl, ⟨_, _, rfl, hp⟩, vs, v, ⟨hp, by lia⟩, ns, ⟨rfl, by rw [set_other ne]; exact hn, by lia⟩, hP _ ?_⟩
  have keep : ∀ (k : Nat) (o : O), ¬ (M k ∨ k = kn) → h'[k]? = some o → ((h'.set kp (O.list vs)).set kn (O.list (v :: ns)))[k]? = some o := fun k o hk e => by
    have h1 : kn ≠ k := fun q => hk (.inr q.symm)
    have h2 : kp ≠ k := fun q => hk (.inl (q ▸ I.mp))
    rw [set_other h1, set_other h2]; exact e
  refine ⟨(I.g.set (.inl rfl)).set (.inr I.ln), ⟨vs, ?_, tp1.step keep fun _ _ q => q⟩, ⟨v :: ns, ?_, .cons (tv.step keep fun _ _ q => q) (tn.step keep fun _ _ q => q)⟩, I.mp, I.ln, I.lm, by simp; lia⟩
  · rw [set_other (Ne.symm ne)]
    exact set_self hp
  · exact set_self (h := h'.set kp (O.list vs)) (o' := O.list ns) (by rw [set_other ne]; exact hn)
end Mine
end

noncomputable section -- L3k
open PySem PySem.W PySem.Calls PyProof.Rows
set_option maxRecDepth 100000
set_option autoImplicit false
namespace Mine

theorem Il.grow {h h' h'' : List O} {M : Nat → Prop} {kp kn : Nat} {pile node : List T} (I : Il h M kp kn pile node h') (g : Gr h' h'') : Il h M kp kn pile node h'' := by
  obtain ⟨vs, hp, tp⟩ := I.p
  obtain ⟨ns, hn, tn⟩ := I.n
  exact ⟨I.g.trans (GrX.of g), ⟨vs, g.get hp, tp.step (fun _ _ _ e => g.get e) fun _ _ q => q⟩, ⟨ns, g.get hn, tn.step (fun _ _ _ e => g.get e) fun _ _ q => q⟩, I.mp, I.ln, I.lm, I.size⟩
theorem dataAll_nil (t : List T) : Spec.sameAll (dataAll t) [] = decide (t = []) := by
  cases t with
  | nil => simp [dataAll, Spec.sameAll]
  | cons x r => simp [dataAll, Spec.sameAll]
/-- pile != [] -/
theorem t_ne {h : List O} {kp : Nat} {M : Nat → Prop} {vs : List V} {pile : List T} (hp : h[kp]? = some (O.list vs)) (tp : TVs h M vs pile) (hd : depTs pile ≤ 60) {l : Loc} (hl : l[0]? = some (some (.ref kp))) {P : Bool → List O → Prop}
    (hP : P (decide (pile ≠ [])) (h ++ [O.list []])) : bCmp .NotEq (eNm 0) (eList esNil) l h P := by
  refine ⟨_, hl, by simp, ?_⟩
  have tp' : TVs (h ++ [O.list []]) M vs pile := tp.step (fun _ _ _ e => snoc_old e) fun _ _ q => q
  refine ⟨dataOf (.l pile), .list [], ⟨?_, .list (snoc_get _ _) .nil, shaped_T (by unfold depT; lia), by decide, ?_⟩, ?_⟩
  · unfold dataOf
    exact .list (snoc_old hp) tp'.dv
  · have := mix_T (.l pile) (.l [])
    simpa [dataOf, dataAll] using this
  · have e : (!Spec.same (dataOf (.l pile)) (.list [])) = decide (pile ≠ []) := by
      unfold dataOf
      rw [Spec.same, dataAll_nil]
      by_cases q : pile = [] <;> simp [q]
    rw [e]
    exact hP
theorem depTs_append : ∀ a b : List T, depTs (a ++ b) = max (depTs a) (depTs b)
  | [], b => by simp [depTs]
  | x :: r, b => by
    rw [List.cons_append, depTs, depTs, depTs_append r b, Nat.max_assoc]
/-- pile[-1][0] -/
theorem t_tag {h : List O} {kp : Nat} {M : Nat → Prop} {vs : List V} {pile : List T} {n : Int} {rest : List T} (hp : h[kp]? = some (O.list vs)) (tp : TVs h M vs (pile ++ [.l (.i n :: rest)])) {l : Loc} (hl : l[0]? = some (some (.ref kp))) {P : V → List O → Prop}
    (hP : P (.int n) h) : eIdx (eIdx (eNm 0) (eNeg (eInt 1))) (eInt 0) l h P := by
  obtain ⟨b, v, rfl, _, tv⟩ := tp.snoc
  cases tv with
  | l nm e ts =>
    cases ts with
    | cons a r =>
      cases a
      rename_i k xs
      have hat : at? (b ++ [V.ref k]) (-1) = some (V.ref k) := by
        unfold at?
        rw [if_neg (by lia), if_pos (by simp; lia)]
        have : ((-1 : Int) + ((b ++ [V.ref k]).length : Int)).toNat = b.length := by simp; lia
        rw [this]
        exact List.getElem?_concat_length ..
      refine ⟨_, hl, _, V.ref k, ⟨.inl hp, smn1, hat⟩, ?_⟩
      exact ⟨_, _, ⟨.inl e, sm0, rfl⟩, hP⟩
end Mine
end

noncomputable section -- L3l
open PySem PySem.W PySem.Calls PyProof.Rows
set_option maxRecDepth 100000
set_option autoImplicit false
namespace Mine

/-- a place among the row's starts -/
structure At (st : List Nat) (place row col : Nat) : Prop where
  size : st.length ≤ 2 ^ 16
  at_ : st[row]? = some (place - col)
  le : col ≤ place
  lo : ∀ i y, i < row + 1 → st[i]? = some y → y ≤ place
  hi : ∀ i y, row + 1 ≤ i → st[i]? = some y → place < y
noncomputable def leafT (n : Int) (row col : Nat) : T := .l [.i n, .i row, .i col]

/-- what follows when leaf and node are made -/
noncomputable def layRest : ST := (sSeq (sIf (bVal (eApp fEof (esCons (eNm 2) esNil))) (sSeq (sWhile wLay_t1 wLay_b0) (sSeq (sExp (eMeth isListV mInsert0 (eNm 6) (esCons (eInt 0) (esCons (eInt 259) esNil)))) sPass)) (sSeq (sIf (bCmp .Eq (eNm 2) (eInt 4)) (sSeq (sWhile wLay_t3 wLay_b2) (sSeq (sExp (eMeth isListV mInsert0 (eNm 6) (esCons (eInt 0) (esCons (eInt 256) esNil)))) sPass)) (sSeq (sIf (bCmp .Eq (eNm 2) (eInt 6)) (sSeq (sWhile wLay_t5 wLay_b4) (sSeq (sExp (eMeth isListV mInsert0 (eNm 6) (esCons (eInt 0) (esCons (eMeth isListV mPop (eNm 0) esNil) esNil)))) (sSeq (sExp (eMeth isListV mInsert0 (eNm 6) (esCons (eInt 0) (esCons (eInt 257) esNil)))) sPass))) (sSeq (sAsg 6 (eNm 5)) sPass)) sPass)) sPass)) (sSeq (sExp (eMeth isListV mAppend (eNm 0) (esCons (eNm 6) esNil))) sPass))
noncomputable def layQ (P : V → List O → Prop) : Out → Loc → List O → Prop := fun o _ h' => match o with | .ret v => P v h' | .next => P .none h' | _ => False
noncomputable def layL (kp ks : Nat) (number : Int) (place row : Nat) (kl kn : Nat) : Loc := [some (.ref kp), some (.ref ks), some (.int number), some (.int place), some (.int row), some (.ref kl), some (.ref kn)]

theorem lay_start {h : List O} {M : Nat → Prop} {kp ks : Nat} {st : List Nat} {pile : List T} {vs : List V} {number : Int} {place row col : Nat} {P : V → List O → Prop} (A : At st place row col) (hs : h[ks]? = some (O.list (vis st))) (hp : h[kp]? = some (O.list vs)) (tp : TVs h M vs pile) (mp : M kp)
    (lm : ∀ k, M k → k < h.length) (hz : pile.length ≤ 2 ^ 19)
    (k : Il h M kp (h.length + 1) pile [leafT number row col] (h ++ [O.list [.int number, .int row, .int col]] ++ [O.list [.ref h.length]]) → layRest (layL kp ks number place row h.length (h.length + 1)) (h ++ [O.list [.int number, .int row, .int col]] ++ [O.list [.ref h.length]]) (layQ P)) :
    fLay [.ref kp, .ref ks, .int number, .int place] h P := by
  have hrow := (List.getElem?_eq_some_iff.mp A.at_).1
  have hsz := A.size
  unfold fLay defW wLay
  refine ⟨_, rfl, ?_⟩
  refine ⟨_, rfl, _, rfl, ?_⟩
  refine c_bisect (r := row + 1) hs hsz hrow A.lo A.hi ?_
  have e1 : (((row + 1 : Nat) : Int) - 1) = (row : Int) := by lia
  dsimp only [eInt, binW, binI]
  rw [e1]
  have hat : at? (vis st) (row : Int) = some (.int ((place - col : Nat) : Int)) := by
    unfold at?
    rw [if_pos (by lia), Int.toNat_natCast, vis_get, A.at_]
    rfl
  refine ⟨_, rfl, _, rfl, _, rfl, _, rfl, _, rfl, _, _, ⟨.inl hs, by unfold small; lia, hat⟩, by simp, ?_⟩
  have e2 : ((place : Int) - ((place - col : Nat) : Int)) = (col : Int) := by have := A.le; lia
  rw [e2]
  refine ⟨_, rfl, by simp, ?_⟩
  have hlen : (h ++ [O.list [V.int number, V.int row, V.int col]]).length = h.length + 1 := by simp
  have g : Gr h (h ++ [O.list [.int number, .int row, .int col]] ++ [O.list [.ref h.length]]) := (Gr.snoc _ _).trans (Gr.snoc _ _)
  have := k ⟨GrX.of g, ⟨vs, g.get hp, tp.step (fun _ _ _ e => g.get e) fun k hk q => by
      rcases q with q | q
      · exact q
      · lia⟩, ⟨_, by rw [← hlen]; exact snoc_get _ _, .one (.l (fun q => ?_) (snoc_old (snoc_get _ _)) (.cons (.i _) (.cons (.i _) (.cons (.i _) .nil))))⟩, mp, Nat.le_succ _, lm, by simp; lia⟩
  · rw [← hlen] at this
    exact this
  · rcases q with q | q
    · exact absurd (lm _ q) (Nat.lt_irrefl _)
    · lia
end Mine
end

noncomputable section -- L3m
open PySem PySem.W PySem.Calls PyProof.Rows
set_option maxRecDepth 100000
set_option autoImplicit false
namespace Mine

noncomputable abbrev LayPost (h : List O) (M : Nat → Prop) (kp : Nat) (pile : List T) (P : V → List O → Prop) : Prop :=
  ∀ h' vs', GrX (fun k => k = kp) h h' → h'[kp]? = some (O.list vs') → TVs h' M vs' pile → P .none h'
/-- the value put on the pile -/
theorem lay_put {h h' : List O} {M : Nat → Prop} {kp : Nat} {pile : List T} {t : T} {v : V} {vs : List V} {l : Loc} {P : V → List O → Prop} (g : GrX (fun k => k = kp) h h') (hp : h'[kp]? = some (O.list vs)) (tp : TVs h' M vs pile) (tv : TV h' M v t) (mp : M kp) (hz : vs.length ≤ 2 ^ 20)
    (hl0 : l[0]? = some (some (.ref kp))) (hl6 : l[6]? = some (some v)) (hP : LayPost h M kp (pile ++ [t]) P) : sSeq (sExp (eMeth isListV mAppend (eNm 0) (esCons (eNm 6) esNil))) sPass l h' (layQ P) := by
  refine ⟨_, hl0, ⟨_, _, rfl, hp⟩, _, hl6, ?_⟩
  refine ⟨vs, ⟨hp, hz⟩, ?_⟩
  have keep : ∀ (k : Nat) (o : O), ¬ M k → h'[k]? = some o → (h'.set kp (O.list (vs ++ [v])))[k]? = some o := fun k o hk e => by
    have ne : kp ≠ k := fun q => hk (q ▸ mp)
    rw [set_other ne]; exact e
  exact hP _ _ (g.set (.inl rfl)) (set_self hp) ((tp.step keep fun _ _ q => q).append (.one (tv.step keep fun _ _ q => q)))

theorem c_lay_leaf {h : List O} {M : Nat → Prop} {kp ks : Nat} {st : List Nat} {pile : List T} {vs : List V} {number : Int} {place row col : Nat} {P : V → List O → Prop} (A : At st place row col) (hs : h[ks]? = some (O.list (vis st))) (hp : h[kp]? = some (O.list vs)) (tp : TVs h M vs pile) (mp : M kp)
    (lm : ∀ k, M k → k < h.length) (hz : pile.length ≤ 2 ^ 19) (h0 : number ≠ 0) (h4 : number ≠ 4) (h6 : number ≠ 6) (hP : LayPost h M kp (pile ++ [leafT number row col]) P) : fLay [.ref kp, .ref ks, .int number, .int place] h P := by
  refine lay_start A hs hp tp mp lm hz fun I => ?_
  unfold layRest
  refine ⟨_, rfl, ?_⟩
  refine c_eof ?_
  show (match decide (number = 0) with | true => _ | false => _)
  rw [decide_eq_false h0]
  refine ⟨_, rfl, ?_⟩
  show (match decide (number = 4) with | true => _ | false => _)
  rw [decide_eq_false h4]
  refine ⟨_, rfl, ?_⟩
  show (match decide (number = 6) with | true => _ | false => _)
  rw [decide_eq_false h6]
  refine ⟨_, rfl, ?_⟩
  have g : Gr h (h ++ [O.list [V.int number, V.int row, V.int col]] ++ [O.list [V.ref h.length]]) := (Gr.snoc _ _).trans (Gr.snoc _ _)
  have l1 := tp.length
  refine lay_put (GrX.of g) (g.get hp) (tp.step (fun _ _ _ e => g.get e) fun _ _ q => q) (t := leafT number row col) (.l (fun q => absurd (lm _ q) (Nat.lt_irrefl _)) (snoc_old (snoc_get _ _)) (.cons (.i _) (.cons (.i _) (.cons (.i _) .nil)))) mp (by lia) rfl rfl hP
end Mine
end

noncomputable section -- L3n
open PySem PySem.W PySem.Calls PyProof.Rows
set_option maxRecDepth 100000
set_option autoImplicit false
namespace Mine

/-- the node closed by its number and put on the pile -/
theorem lay_close {h h' : List O} {M : Nat → Prop} {kp kn ks kl : Nat} {pile node : List T} {number : Int} {place row : Nat} {n : Int} {P : V → List O → Prop} (I : Il h M kp kn pile node h') (hP : LayPost h M kp (pile ++ [.l (.i n :: node)]) P) :
    sSeq (sExp (eMeth isListV mInsert0 (eNm 6) (esCons (eInt 0) (esCons (eInt n) esNil)))) sPass (layL kp ks number place row kl kn) h' (fun o l1 h1 => match o with
      | .next => sSeq (sExp (eMeth isListV mAppend (eNm 0) (esCons (eNm 6) esNil))) sPass l1 h1 (layQ P)
      | o => layQ P o l1 h1) := by
  obtain ⟨vs, hp, tp⟩ := I.p
  obtain ⟨ns, hn, tn⟩ := I.n
  have ne := I.ne
  have l1 := tp.length
  have l2 := tn.length
  have sz := I.size
  refine ⟨_, rfl, ⟨_, _, rfl, hn⟩, ?_⟩
  refine ⟨ns, ⟨rfl, hn, by omega⟩, ?_⟩
  have keep : ∀ (k : Nat) (o : O), ¬ (M k ∨ k = kn) → h'[k]? = some o → (h'.set kn (O.list (.int n :: ns)))[k]? = some o := fun k o hk e => by
    have h1 : kn ≠ k := fun q => hk (.inr q.symm)
    rw [set_other h1]; exact e
  have nM : ¬ M kn := fun q => by
    have := I.lm _ q
    have := I.ln
    omega
  exact lay_put (t := .l (.i n :: node)) (I.g.set (.inr I.ln)) (by rw [set_other (Ne.symm ne)]; exact hp) (tp.step keep fun _ _ q => .inl q) (.l nM (set_self hn) (.cons (.i n) (tn.step keep fun _ _ q => .inl q))) I.mp (by omega) rfl rfl hP

theorem c_lay_0 {h : List O} {M : Nat → Prop} {kp ks : Nat} {st : List Nat} {pile : List T} {vs : List V} {place row col : Nat} {P : V → List O → Prop} (A : At st place row col) (hs : h[ks]? = some (O.list (vis st))) (hp : h[kp]? = some (O.list vs)) (tp : TVs h M vs pile) (mp : M kp)
    (lm : ∀ k, M k → k < h.length) (hz : pile.length ≤ 2 ^ 19) (hd : depTs pile ≤ 60) (hP : LayPost h M kp [.l (.i 259 :: (pile ++ [leafT 0 row col]))] P) : fLay [.ref kp, .ref ks, .int 0, .int place] h P := by
  refine lay_start A hs hp tp mp lm hz fun I => ?_
  unfold layRest
  refine ⟨_, rfl, ?_⟩
  refine c_eof ?_
  refine ⟨pile.length + 1, ?_⟩
  have loop : ∀ (k : Nat) (pl node : List T) (h' : List O), pl.length = k → depTs pl ≤ 60 → Il h M kp (h.length + 1) pl node h' → pl ++ node = pile ++ [leafT 0 row col] →
      whileN wLay_t1 wLay_b0 (k + 1) (layL kp ks 0 place row h.length (h.length + 1)) h' (fun o l1 h1 => match o with
        | .next => sSeq (sExp (eMeth isListV mInsert0 (eNm 6) (esCons (eInt 0) (esCons (eInt 259) esNil)))) sPass l1 h1 (fun o l1 h1 => match o with
          | .next => sSeq (sExp (eMeth isListV mAppend (eNm 0) (esCons (eNm 6) esNil))) sPass l1 h1 (layQ P)
          | o => layQ P o l1 h1)
        | o => (match o with
          | .next => sSeq (sExp (eMeth isListV mAppend (eNm 0) (esCons (eNm 6) esNil))) sPass l1 h1 (layQ P)
          | o => layQ P o l1 h1)) := by
    intro k
    induction k with
    | zero =>
      intro pl node h' hk hdp J he
      have hpl : pl = [] := List.length_eq_zero_iff.mp hk
      subst hpl
      obtain ⟨vs', hp', tp'⟩ := J.p
      refine t_ne hp' tp' hdp rfl ?_
      refine lay_close (J.grow (Gr.snoc _ _)) ?_
      rw [List.nil_append] at he ⊢
      rw [he]; exact hP
    | succ k ih =>
      intro pl node h' hk hdp J he
      obtain ⟨pl', t, rfl⟩ : ∃ pl' t, pl = pl' ++ [t] := by
        rcases List.eq_nil_or_concat pl with q | ⟨a, b, q⟩
        · rw [q] at hk; simp at hk
        · exact ⟨a, b, by rw [q, List.concat_eq_append]⟩
      obtain ⟨vs', hp', tp'⟩ := J.p
      refine t_ne hp' tp' hdp rfl ?_
      have hne : decide (pl' ++ [t] ≠ []) = true := by simp
      rw [hne]
      rw [depTs_append] at hdp
      refine lay_turn (J.grow (Gr.snoc _ _)) fun h'' J' => ?_
      exact ih pl' (t :: node) h'' (by simpa using hk) (by omega) J' (by rw [← he]; simp)
  exact loop pile.length pile [leafT 0 row col] _ rfl hd I rfl
end Mine
end

noncomputable section -- L3o
open PySem PySem.W PySem.Calls PyProof.Rows
set_option maxRecDepth 100000
set_option autoImplicit false
namespace Mine

/-- a tree that begins with a number -/
noncomputable def Tagged (q : Int → Prop) : T → Prop
  | .l (.i n :: _) => q n
  | _ => False
theorem Tagged.ex {q : Int → Prop} {t : T} (h : Tagged q t) : ∃ n r, t = .l (.i n :: r) ∧ q n := by
  match t with
  | .l (.i n :: r) => exact ⟨n, r, rfl, h⟩
  | .i _ => exact h.elim
  | .l [] => exact h.elim
  | .l (.l _ :: _) => exact h.elim
theorem snoc_of {α : Type} {l : List α} {k : Nat} (h : l.length = k + 1) : ∃ a b, l = a ++ [b] := by
  rcases List.eq_nil_or_concat l with q | ⟨a, b, q⟩
  · rw [q] at h; simp at h
  · exact ⟨a, b, by rw [q, List.concat_eq_append]⟩

theorem loop6 {h : List O} {M : Nat → Prop} {kp ks kn kl : Nat} {rest : List T} {five : T} {number : Int} {place row : Nat} {Q : Out → Loc → List O → Prop} (h5 : Tagged (· < 256) five) :
    ∀ (k : Nat) (sf node : List T) (h' : List O), sf.length = k → (∀ t ∈ sf, Tagged (256 ≤ ·) t) → Il h M kp kn (rest ++ [five] ++ sf) node h' →
      (∀ h'', Il h M kp kn (rest ++ [five]) (sf ++ node) h'' → Q .next (layL kp ks number place row kl kn) h'') → whileN wLay_t5 wLay_b4 (k + 1) (layL kp ks number place row kl kn) h' Q := by
  intro k
  induction k with
  | zero =>
    intro sf node h' hk hsf J hQ
    have hsf0 : sf = [] := List.length_eq_zero_iff.mp hk
    subst hsf0
    rw [List.append_nil] at J
    obtain ⟨n, r, e5, hn⟩ := h5.ex
    obtain ⟨vs', hp', tp'⟩ := J.p
    rw [e5] at tp'
    refine t_tag hp' tp' rfl ?_
    refine c_nonterm ?_
    show (match decide (256 ≤ n) with | false => _ | true => _)
    rw [decide_eq_false (by lia : ¬ 256 ≤ n)]
    exact hQ h' J
  | succ k ih =>
    intro sf node h' hk hsf J hQ
    obtain ⟨sf', t, rfl⟩ := snoc_of hk
    obtain ⟨n, r, et, hn⟩ := (hsf t (by simp)).ex
    obtain ⟨vs', hp', tp'⟩ := J.p
    rw [← List.append_assoc] at tp' J
    have tp2 := tp'
    rw [et] at tp2
    refine t_tag hp' tp2 rfl ?_
    refine c_nonterm ?_
    show (match decide (256 ≤ n) with | false => _ | true => _)
    rw [decide_eq_true hn]
    refine lay_turn J fun h'' J' => ?_
    refine ih sf' (t :: node) h'' (by simpa using hk) (fun u hu => hsf u (by simp [hu])) J' fun h3 J3 => hQ h3 ?_
    rw [List.append_assoc]
    exact J3
end Mine
end

noncomputable section -- L3p
open PySem PySem.W PySem.Calls PyProof.Rows
set_option maxRecDepth 100000
set_option autoImplicit false
namespace Mine

theorem c_lay_6 {h : List O} {M : Nat → Prop} {kp ks : Nat} {st : List Nat} {rest suf : List T} {five : T} {vs : List V} {place row col : Nat} {P : V → List O → Prop} (A : At st place row col) (hs : h[ks]? = some (O.list (vis st))) (hp : h[kp]? = some (O.list vs)) (tp : TVs h M vs (rest ++ [five] ++ suf)) (mp : M kp)
    (lm : ∀ k, M k → k < h.length) (hz : (rest ++ [five] ++ suf).length ≤ 2 ^ 19) (hsuf : ∀ t ∈ suf, Tagged (256 ≤ ·) t) (h5 : Tagged (· < 256) five) (hP : LayPost h M kp (rest ++ [.l (.i 257 :: five :: (suf ++ [leafT 6 row col]))]) P) : fLay [.ref kp, .ref ks, .int 6, .int place] h P := by
  refine lay_start A hs hp tp mp lm hz fun I => ?_
  unfold layRest
  refine ⟨_, rfl, ?_⟩
  refine c_eof ?_
  refine ⟨_, rfl, ?_⟩
  refine ⟨_, rfl, ?_⟩
  refine ⟨suf.length + 1, ?_⟩
  refine loop6 h5 suf.length suf [leafT 6 row col] _ rfl hsuf I fun h'' J => ?_
  refine lay_turnE J fun h3 J3 => ?_
  exact lay_close J3 hP
end Mine
end

noncomputable section -- L3q
open PySem PySem.W PySem.Calls PyProof.Rows
set_option maxRecDepth 100000
set_option autoImplicit false
namespace Mine

/-- where a statement's leaves end, going back -/
noncomputable def Stop (rest : List T) : Prop := rest = [] ∨ ∃ a t, rest = a ++ [t] ∧ Tagged (fun n => n = 5 ∨ 256 ≤ n) t
theorem loop4 {h : List O} {M : Nat → Prop} {kp ks kn kl : Nat} {rest : List T} {number : Int} {place row : Nat} {Q : Out → Loc → List O → Prop} (hr : Stop rest) (hdr : depTs rest ≤ 60) :
    ∀ (k : Nat) (sf node : List T) (h' : List O), sf.length = k → (∀ t ∈ sf, Tagged (fun n => n ≠ 5 ∧ n < 256) t) → depTs sf ≤ 60 → Il h M kp kn (rest ++ sf) node h' →
      (∀ h'', Il h M kp kn rest (sf ++ node) h'' → Q .next (layL kp ks number place row kl kn) h'') → whileN wLay_t3 wLay_b2 (k + 1) (layL kp ks number place row kl kn) h' Q := by
  intro k
  induction k with
  | zero =>
    intro sf node h' hk hsf hd J hQ
    have hsf0 : sf = [] := List.length_eq_zero_iff.mp hk
    subst hsf0
    rw [List.append_nil] at J
    obtain ⟨vs', hp', tp'⟩ := J.p
    refine t_ne hp' tp' hdr rfl ?_
    have J1 := J.grow (Gr.snoc h' (O.list []))
    rcases hr with rfl | ⟨a, t, rfl, ht⟩
    · exact hQ _ J1
    · have hne : decide (a ++ [t] ≠ []) = true := by simp
      rw [hne]
      obtain ⟨n, r, rfl, hn⟩ := ht.ex
      obtain ⟨vs1, hp1, tp1⟩ := J1.p
      refine t_tag hp1 tp1 rfl ?_
      by_cases h5 : n = 5
      · subst h5
        exact hQ _ J1
      · show (match decide (n ≠ 5) with | true => _ | false => _)
        rw [decide_eq_true h5]
        refine t_tag hp1 tp1 rfl ?_
        refine c_term ?_
        show (match decide (n < 256) with | true => _ | false => _)
        rw [decide_eq_false (by lia : ¬ n < 256)]
        exact hQ _ J1
  | succ k ih =>
    intro sf node h' hk hsf hd J hQ
    obtain ⟨sf', t, rfl⟩ := snoc_of hk
    obtain ⟨n, r, et, hn⟩ := (hsf t (by simp)).ex
    obtain ⟨vs', hp', tp'⟩ := J.p
    have hdd : depTs (rest ++ (sf' ++ [t])) ≤ 60 := by rw [depTs_append]; lia
    refine t_ne hp' tp' hdd rfl ?_
    have hne : decide (rest ++ (sf' ++ [t]) ≠ []) = true := by simp
    rw [hne]
    have J1 := J.grow (Gr.snoc h' (O.list []))
    rw [← List.append_assoc] at J1
    obtain ⟨vs1, hp1, tp1⟩ := J1.p
    have tp2 := tp1
    rw [et] at tp2
    refine t_tag hp1 tp2 rfl ?_
    show (match decide (n ≠ 5) with | true => _ | false => _)
    rw [decide_eq_true hn.1]
    refine t_tag hp1 tp2 rfl ?_
    refine c_term ?_
    show (match decide (n < 256) with | true => _ | false => _)
    rw [decide_eq_true hn.2]
    refine lay_turn J1 fun h'' J' => ?_
    rw [depTs_append] at hd
    refine ih sf' (t :: node) h'' (by simpa using hk) (fun u hu => hsf u (by simp [hu])) (by lia) J' fun h3 J3 => hQ h3 ?_
    rw [List.append_assoc]
    exact J3
theorem c_lay_4 {h : List O} {M : Nat → Prop} {kp ks : Nat} {st : List Nat} {rest suf : List T} {vs : List V} {place row col : Nat} {P : V → List O → Prop} (A : At st place row col) (hs : h[ks]? = some (O.list (vis st))) (hp : h[kp]? = some (O.list vs)) (tp : TVs h M vs (rest ++ suf)) (mp : M kp)
    (lm : ∀ k, M k → k < h.length) (hz : (rest ++ suf).length ≤ 2 ^ 19) (hsuf : ∀ t ∈ suf, Tagged (fun n => n ≠ 5 ∧ n < 256) t) (hr : Stop rest) (hd : depTs (rest ++ suf) ≤ 60) (hP : LayPost h M kp (rest ++ [.l (.i 256 :: (suf ++ [leafT 4 row col]))]) P) : fLay [.ref kp, .ref ks, .int 4, .int place] h P := by
  rw [depTs_append] at hd
  refine lay_start A hs hp tp mp lm hz fun I => ?_
  unfold layRest
  refine ⟨_, rfl, ?_⟩
  refine c_eof ?_
  refine ⟨_, rfl, ?_⟩
  refine ⟨suf.length + 1, ?_⟩
  refine loop4 hr (by lia) suf.length suf [leafT 4 row col] _ rfl hsuf (by lia) I fun h'' J => ?_
  exact lay_close J hP
end Mine
end

noncomputable section -- L3r
open PySem PySem.W PySem.Calls PyProof.Rows
set_option maxRecDepth 100000
set_option autoImplicit false
namespace Mine

/-! the drawing: its state -/
structure DS where
  text : List Nat
  leads : List (List Nat × Nat)
  spine : List (List T)

noncomputable def linkV : Option Nat → List V
  | none => []
  | some b => [.ref b]
/-- the open blocks, innermost first; each ends in a reference to the next inner one -/
inductive Chain (h : List O) (M : Nat → Prop) : Option Nat → List Nat → List (List T) → Prop
  | nil (n : Option Nat) : Chain h M n [] []
  | cons {n : Option Nat} {b : Nat} {bs : List Nat} {vs : List V} {ts : List T} {tss : List (List T)} : h[b]? = some (O.list (vs ++ linkV n)) → TVs h M vs ts → Chain h M (some b) bs tss → Chain h M n (b :: bs) (ts :: tss)
theorem Chain.step {h h' : List O} {M M' : Nat → Prop} (g : ∀ (k : Nat) (o : O), ¬ M k → h[k]? = some o → h'[k]? = some o) (m : ∀ k, k < h.length → M' k → M k) : ∀ {n : Option Nat} {bs : List Nat} {tss : List (List T)}, (∀ (k : Nat) (o : O), k ∈ bs → h[k]? = some o → h'[k]? = some o) →
    Chain h M n bs tss → Chain h' M' n bs tss
  | _, _, _, _, .nil n => .nil n
  | _, _, _, gb, .cons e t c => .cons (gb _ _ (.head _) e) (t.step g m) (c.step g m fun k o hk => gb k o (.tail _ hk))
theorem Chain.len {h : List O} {M : Nat → Prop} : ∀ {n : Option Nat} {bs : List Nat} {tss : List (List T)}, Chain h M n bs tss → bs.length = tss.length
  | _, _, _, .nil n => rfl
  | _, _, _, .cons _ _ c => by simp [c.len]
theorem Chain.lt {h : List O} {M : Nat → Prop} : ∀ {n : Option Nat} {bs : List Nat} {tss : List (List T)}, Chain h M n bs tss → ∀ k ∈ bs, k < h.length
  | _, _, _, .nil n, _, hk => by cases hk
  | _, _, _, .cons e _ c, k, hk => by
    rcases List.mem_cons.mp hk with rfl | hk
    · exact get_lt e
    · exact c.lt k hk

/-- the leads: runs and blanks -/
inductive LdR (h : List O) (M : Nat → Prop) : List V → List (List Nat × Nat) → Prop
  | nil : LdR h M [] []
  | cons {a r : Nat} {l : List Nat × Nat} {vs : List V} {ls : List (List Nat × Nat)} : ¬ M a → ¬ M r → h[a]? = some (O.list [.ref r, .int l.2]) → h[r]? = some (O.list (vis l.1)) → LdR h M vs ls → LdR h M (.ref a :: vs) (l :: ls)
namespace LdR
variable {h h' : List O} {M M' : Nat → Prop}
theorem step (g : ∀ (k : Nat) (o : O), ¬ M k → h[k]? = some o → h'[k]? = some o) (m : ∀ k, k < h.length → M' k → M k) : ∀ {vs : List V} {ls : List (List Nat × Nat)}, LdR h M vs ls → LdR h' M' vs ls
  | _, _, .nil => .nil
  | _, _, .cons a b c d e => .cons (fun q => a (m _ (get_lt c) q)) (fun q => b (m _ (get_lt d) q)) (g _ _ a c) (g _ _ b d) (e.step g m)
theorem append : ∀ {a b : List V} {x y : List (List Nat × Nat)}, LdR h M a x → LdR h M b y → LdR h M (a ++ b) (x ++ y)
  | _, _, _, _, .nil, q => q
  | _, _, _, _, .cons a b c d e, q => .cons a b c d (e.append q)
theorem length : ∀ {a : List V} {x : List (List Nat × Nat)}, LdR h M a x → a.length = x.length
  | _, _, .nil => rfl
  | _, _, .cons _ _ _ _ e => by simp [e.length]
theorem take : ∀ {a : List V} {x : List (List Nat × Nat)} (n : Nat), LdR h M a x → LdR h M (a.take n) (x.take n)
  | _, _, n, .nil => by simp; exact .nil
  | _, _, 0, .cons .. => .nil
  | _, _, n + 1, .cons a b c d e => .cons a b c d (e.take n)
theorem last {x : List (List Nat × Nat)} {l : List Nat × Nat} : ∀ {a : List V}, LdR h M a (x ++ [l]) → ∃ vs k r, a = vs ++ [.ref k] ∧ ¬ M k ∧ ¬ M r ∧ h[k]? = some (O.list [.ref r, .int l.2]) ∧ h[r]? = some (O.list (vis l.1)) ∧ LdR h M vs x := by
  induction x with
  | nil =>
    intro a q
    cases q with
    | cons a b c d e =>
      cases e
      exact ⟨[], _, _, rfl, a, b, c, d, .nil⟩
  | cons y x ih =>
    intro a q
    cases q with
    | cons a b c d e =>
      obtain ⟨vs, k, r, rfl, p1, p2, p3, p4, p5⟩ := ih e
      exact ⟨_ :: vs, k, r, rfl, p1, p2, p3, p4, .cons a b c d p5⟩
end LdR

noncomputable def Md (kp kl kb : Nat) (bs : List Nat) (k : Nat) : Prop := k ∈ kp :: kl :: kb :: bs
structure DI (h : List O) (kp kl kb : Nat) (bs : List Nat) (D : DS) : Prop where
  page : h[kp]? = some (O.list [.str D.text, .int (rowOf D.text), .int (colOf D.text)])
  ld : ∃ ls, h[kl]? = some (O.list ls) ∧ LdR h (Md kp kl kb bs) ls D.leads
  bl : h[kb]? = some (O.list (bs.reverse.map .ref))
  ch : Chain h (Md kp kl kb bs) none bs D.spine
  nd : (kp :: kl :: kb :: bs).Nodup
section
variable {h h' : List O} {kp kl kb : Nat} {bs : List Nat} {D : DS}
theorem DI.lt (I : DI h kp kl kb bs D) : ∀ k, Md kp kl kb bs k → k < h.length := by
  intro k hk
  unfold Md at hk
  simp only [List.mem_cons] at hk
  obtain ⟨ls, e, _⟩ := I.ld
  rcases hk with rfl | rfl | rfl | hk
  · exact get_lt I.page
  · exact get_lt e
  · exact get_lt I.bl
  · exact I.ch.lt k hk
theorem DI.fresh (I : DI h kp kl kb bs D) {k : Nat} (hk : h.length ≤ k) : ¬ Md kp kl kb bs k := fun q => absurd (I.lt k q) (Nat.not_lt.mpr hk)
/-- the page alone was written -/
theorem DI.page_to (I : DI h kp kl kb bs D) {text : List Nat} (keep : ∀ (k : Nat) (o : O), k ≠ kp → h[k]? = some o → h'[k]? = some o) (hp : h'[kp]? = some (O.list [.str text, .int (rowOf text), .int (colOf text)])) :
    DI h' kp kl kb bs { D with text := text } := by
  have nd := I.nd
  simp only [List.nodup_cons, List.mem_cons, not_or] at nd
  obtain ⟨⟨n1, n2, n3⟩, ⟨n4, n5⟩, n6, n7⟩ := nd
  have g : ∀ (k : Nat) (o : O), ¬ Md kp kl kb bs k → h[k]? = some o → h'[k]? = some o := fun k o hk e => keep k o (fun q => hk (q ▸ List.mem_cons_self ..)) e
  obtain ⟨ls, e, L⟩ := I.ld
  exact ⟨hp, ⟨ls, keep _ _ (Ne.symm n1) e, L.step g fun _ _ q => q⟩, keep _ _ (Ne.symm n2) I.bl, I.ch.step g (fun _ _ q => q) fun k o hk e => keep k o (fun q => n3 (q ▸ hk)) e, I.nd⟩
theorem DI.grow (I : DI h kp kl kb bs D) (g : Gr h h') : DI h' kp kl kb bs D := I.page_to (fun _ _ _ e => g.get e) (g.get I.page)

theorem row_append (a b : List Nat) : rowOf (a ++ b) = rowOf a + rowOf b := by unfold rowOf; exact List.count_append
theorem row_no {b : List Nat} (hb : 10 ∉ b) : rowOf b = 0 := by unfold rowOf; exact List.count_eq_zero.mpr hb
theorem tw_append {p : Nat → Bool} : ∀ (a b : List Nat), (∀ x ∈ a, p x = true) → (a ++ b).takeWhile p = a ++ b.takeWhile p
  | [], _, _ => rfl
  | x :: a, b, h => by rw [List.cons_append, List.takeWhile_cons, if_pos (h x (.head _)), tw_append a b fun y hy => h y (.tail _ hy)]; rfl
theorem col_no {a b : List Nat} (hb : 10 ∉ b) : colOf (a ++ b) = colOf a + b.length := by
  unfold colOf
  rw [List.reverse_append, tw_append]
  · simp; lia
  · intro x hx
    rw [List.mem_reverse] at hx
    simp only [decide_not, Bool.not_eq_eq_eq_not, Bool.not_true, decide_eq_false_iff_not]
    rintro rfl
    exact hb hx
theorem col_nl (a : List Nat) : colOf (a ++ [10]) = 0 := by
  unfold colOf
  simp
theorem sign_end {sg : List Nat} (h : 10 ∉ sg.dropLast) : (sg.getLast? = some 10 ∧ ∃ a, sg = a ++ [10] ∧ 10 ∉ a) ∨ (sg.getLast? ≠ some 10 ∧ 10 ∉ sg) := by
  rcases List.eq_nil_or_concat sg with rfl | ⟨a, b, q⟩
  · right; simp
  · rw [List.concat_eq_append] at q
    subst q
    rw [List.dropLast_concat] at h
    by_cases hb : b = 10
    · subst hb; left; exact ⟨by simp, a, rfl, h⟩
    · right
      refine ⟨by simpa using hb, ?_⟩
      simp only [List.mem_append, List.mem_singleton, not_or]
      exact ⟨h, fun q => hb q.symm⟩
theorem d_write (I : DI h kp kl kb bs D) {n : Int} {sg : List Nat} (hs : 10 ∉ sg.dropLast) (hl : D.text.length + sg.length ≤ 2 ^ 20) {P : V → List O → Prop}
    (k : ∀ h', DI h' kp kl kb bs { D with text := D.text ++ sg } → GrX (fun k => k = kp) h h' → TV h' (Md kp kl kb bs) (.ref h.length) (leafT n (rowOf D.text) (colOf D.text)) → P (.ref h.length) h') :
    fWrite [.ref kp, .int n, .str sg] h P := by
  refine w_write I.page hl (k _ (I.page_to ?_ ?_) ?_ ?_)
  · intro j o hj e
    rw [set_other (Ne.symm hj)]
    exact snoc_old e
  · rw [set_self (snoc_old I.page)]
    rcases sign_end hs with ⟨e, a, rfl, ha⟩ | ⟨e, ha⟩
    · rw [if_pos e, if_pos e, ← List.append_assoc, col_nl, row_append, row_append, row_no ha]
      rfl
    · rw [if_neg e, if_neg e, col_no ha, row_append, row_no ha]
      rfl
  · exact (GrX.of (Gr.snoc _ _)).set (.inl rfl)
  · have ne : kp ≠ h.length := Nat.ne_of_lt (get_lt I.page)
    refine .l (I.fresh (Nat.le_refl _)) (by rw [set_other ne]; exact snoc_get _ _) ?_
    exact .cons (.i _) (.cons (.i _) (.cons (.i _) .nil))

noncomputable def pushTop (t : T) : List (List T) → List (List T)
  | [] => []
  | ts :: r => (ts ++ [t]) :: r
/-- the innermost block has one item more -/
theorem DI.top (I : DI h kp kl kb bs D) {b : Nat} {bs' : List Nat} (hb : bs = b :: bs') {v : V} {t : T} {vs : List V} (hv : h[b]? = some (O.list vs)) (tv : TV h (Md kp kl kb bs) v t) :
    DI (h.set b (O.list (vs ++ [v]))) kp kl kb bs { D with spine := pushTop t D.spine } := by
  subst hb
  have nd := I.nd
  simp only [List.nodup_cons, List.mem_cons, not_or] at nd
  obtain ⟨⟨n1, n2, n3, n4⟩, ⟨n5, n6, n7⟩, ⟨n8, n9⟩, n10, n11⟩ := nd
  have keep : ∀ (k : Nat) (o : O), k ≠ b → h[k]? = some o → (h.set b (O.list (vs ++ [v])))[k]? = some o := fun k o hk e => by rw [set_other (Ne.symm hk)]; exact e
  have g : ∀ (k : Nat) (o : O), ¬ Md kp kl kb (b :: bs') k → h[k]? = some o → (h.set b (O.list (vs ++ [v])))[k]? = some o := fun k o hk e => keep k o (fun q => hk (by rw [q]; simp [Md])) e
  obtain ⟨ls, e, L⟩ := I.ld
  refine ⟨keep _ _ n3 I.page, ⟨ls, keep _ _ n6 e, L.step g fun _ _ q => q⟩, keep _ _ n8 I.bl, ?_, I.nd⟩
  have C := I.ch
  show Chain _ _ _ _ (pushTop t D.spine)
  generalize D.spine = sp at C ⊢
  cases C with
  | cons e1 t1 c1 =>
    rw [hv] at e1
    simp only [linkV, List.append_nil, Option.some.injEq, O.list.injEq] at e1
    subst e1
    refine .cons (vs := _ ++ [v]) (by rw [set_self hv]; simp [linkV]) ((t1.step g fun _ _ q => q).append (.one (tv.step g fun _ _ q => q))) ?_
    exact c1.step g (fun _ _ q => q) fun k o hk e => keep k o (fun q => n10 (q ▸ hk)) e
/-- blocks[-1] -/
theorem at_last {α : Type} (xs : List α) (x : α) : at? (xs ++ [x]) (-1) = some x := by
  unfold at?
  have e : (xs ++ [x]).length = xs.length + 1 := by simp
  rw [if_neg (by decide), e, if_pos (by lia)]
  have : ((-1 : Int) + ((xs.length + 1 : Nat) : Int)).toNat = xs.length := by lia
  rw [this]
  simp
theorem e_last (I : DI h kp kl kb bs D) {b : Nat} {bs' : List Nat} (hb : bs = b :: bs') {l : Loc} (hl : l[4]? = some (some (.ref kb))) {P : V → List O → Prop} (hP : P (.ref b) h) : eIdx (eNm 4) (eNeg (eInt 1)) l h P := by
  have := I.bl
  rw [hb, List.reverse_cons, List.map_append] at this
  exact ⟨_, hl, _, _, ⟨.inl this, smn1, at_last _ _⟩, hP⟩
theorem DI.topv (I : DI h kp kl kb bs D) {b : Nat} {bs' : List Nat} (hb : bs = b :: bs') : ∃ vs ts tss, D.spine = ts :: tss ∧ h[b]? = some (O.list vs) ∧ TVs h (Md kp kl kb bs) vs ts := by
  subst hb
  have C := I.ch
  generalize D.spine = sp at C ⊢
  cases C with
  | cons e1 t1 c1 => exact ⟨_, _, _, rfl, by simpa [linkV] using e1, t1⟩
/-- blocks[-1].append(e) -/
theorem d_append (I : DI h kp kl kb bs D) {b : Nat} {bs' : List Nat} (hb : bs = b :: bs') {l : Loc} (hl : l[4]? = some (some (.ref kb))) {ea : EV} {Q : Out → Loc → List O → Prop}
    (k : ea l h fun v h1 => mAppend [.ref b, v] h1 fun _ h2 => Q .next l h2) :
    sExp (eMeth isListV mAppend (eIdx (eNm 4) (eNeg (eInt 1))) (esCons ea esNil)) l h Q := by
  refine e_last I hb hl ?_
  obtain ⟨vs, ts, tss, _, hv, _⟩ := I.topv hb
  exact ⟨⟨_, _, rfl, hv⟩, k⟩
theorem d_put (I : DI h kp kl kb bs D) {b : Nat} {bs' : List Nat} (hb : bs = b :: bs') {v : V} {t : T} (tv : TV h (Md kp kl kb bs) v t) (hz : ∀ ts ∈ D.spine, ts.length ≤ 2 ^ 20) {P : V → List O → Prop}
    (k : ∀ h2, GrX (fun k => k = b) h h2 → DI h2 kp kl kb bs { D with spine := pushTop t D.spine } → P .none h2) : mAppend [.ref b, v] h P := by
  obtain ⟨vs, ts, tss, e, hv, tt⟩ := I.topv hb
  refine ⟨vs, ⟨hv, ?_⟩, k _ ((GrX.refl h).set (.inl rfl)) (I.top hb hv tv)⟩
  rw [tt.length]
  exact hz ts (by rw [e]; exact .head _)
end
end Mine
end

noncomputable section -- L3s
open PySem PySem.W PySem.Calls PyProof.Rows
set_option maxRecDepth 100000
set_option autoImplicit false
namespace Mine

noncomputable def leadText (l : List Nat × Nat) : List Nat := (l.1.map fun (r : Nat) => runOf (r : Int)).flatten ++ List.replicate l.2 32
noncomputable def close1 (six : T) : List (List T) → List (List T)
  | a :: b :: r => (b ++ [.l (a ++ [six])]) :: r
  | s => s
noncomputable def closeN (six : T) : Nat → List (List T) → List (List T)
  | 0, s => s
  | n + 1, s => closeN six n (close1 six s)
noncomputable def newLead (kind : Nat) (l : List Nat × Nat) : List Nat × Nat := if kind < 3 then (l.1 ++ [kind + 1, 0], l.2) else (l.1, l.2 + 2)
noncomputable def lastLead (ls : List (List Nat × Nat)) : List Nat × Nat := ls.getLastD ([], 0)
noncomputable def opStr : List Nat := [43, 32, 45, 32, 42, 32, 47, 32, 124, 32, 38, 32, 60, 32, 62, 32, 61, 32, 46, 32, 37, 32, 123, 32, 125, 32, 61, 61, 32, 33, 61, 32, 60, 61, 32, 62, 61, 32, 126, 32, 94, 32, 60, 60, 32, 62, 62, 32, 42, 42, 32, 43, 61, 32, 45, 61, 32, 42, 61, 32, 47, 61, 32, 37, 61, 32, 38, 61, 32, 124, 61, 32, 94, 61, 32, 60, 60, 61, 32, 62, 62, 61, 32, 42, 42, 61, 32, 47, 47, 32, 47, 47, 61, 32, 64, 32, 64, 61, 32, 45, 62, 32, 46, 46, 46, 32, 58, 61, 32, 33]
noncomputable def opsL : List (List Nat) := [[43], [45], [42], [47], [124], [38], [60], [62], [61], [46], [37], [123], [125], [61, 61], [33, 61], [60, 61], [62, 61], [126], [94], [60, 60], [62, 62], [42, 42], [43, 61], [45, 61], [42, 61], [47, 61], [37, 61], [38, 61], [124, 61], [94, 61], [60, 60, 61], [62, 62, 61], [42, 42, 61], [47, 47], [47, 47, 61], [64], [64, 61], [45, 62], [46, 46, 46], [58, 61], [33]]
theorem ops_split : splitF opStr [32] = opsL := by decide +kernel
theorem ops_len : opsL.length = 41 := rfl
noncomputable def opOf (k : Nat) : List Nat := opsL.getD k []
theorem ops_short : ∀ k, (opOf k).length ≤ 3 := by
  intro k
  unfold opOf
  by_cases h : k < 41
  · have : ∀ k < 41, (opsL.getD k []).length ≤ 3 := by decide
    exact this k h
  · unfold List.getD; rw [List.getElem?_eq_none (by rw [ops_len]; lia)]; simp
noncomputable def wordsF (form k : Nat) : List (Int × List Nat) :=
  let op : Int × List Nat := (14 + k, opOf k)
  if form = 0 then [(1, [97]), op, (1, [98]), (4, [10])]
  else if form = 1 then [(1, [97]), (7, [40]), op, (63, [10]), (-1, [32, 9]), (1, [98]), (8, [41]), (4, [10])]
  else if form = 2 then [(3, [34, 92, 34, 40] ++ opOf k ++ [34]), op, (1, [97]), (4, [10])]
  else [(1, [97]), op, (-1, [92, 10]), (-1, [9]), (1, [98]), (4, [10])]
noncomputable def leavesOf : List Nat → List (Int × List Nat) → List T
  | _, [] => []
  | t, (n, sg) :: r => if 0 < n then leafT n (rowOf t) (colOf t) :: leavesOf (t ++ sg) r else leavesOf (t ++ sg) r
noncomputable def signsOf (ws : List (Int × List Nat)) : List Nat := (ws.map (·.2)).flatten

noncomputable def whiteD (x : Nat) (D : DS) : DS := if x / 6560 % 3 = 0 then { D with text := D.text ++ [9, 32] ++ [10], spine := pushTop (.l [.i 258, leafT 63 (rowOf (D.text ++ [9, 32])) (colOf (D.text ++ [9, 32]))]) D.spine } else D
noncomputable def openD (level x : Nat) (D : DS) : DS := if level = D.leads.length then { D with leads := D.leads ++ [newLead (x / 5 % 4) (lastLead D.leads)], spine := [.i 257, leafT 5 (rowOf D.text) 0] :: D.spine } else D
noncomputable def leadOf (x : Nat) (l : List Nat × Nat) : List Nat := leadText (if x / 20 % 2 = 1 then l.1.reverse else l.1, l.2)
noncomputable def closeD (lead : List Nat) (D : DS) : DS := { D with spine := closeN (leafT 6 (rowOf D.text) lead.length) (D.spine.length - D.leads.length) D.spine }
noncomputable def wordsD (ws : List (Int × List Nat)) (D : DS) : DS := { D with text := D.text ++ signsOf ws, spine := pushTop (.l (.i 256 :: leavesOf D.text ws)) D.spine }
noncomputable def cutD (level : Nat) (D : DS) : DS := { D with leads := D.leads.take (level + 1) }
noncomputable def drawStep (D : DS) (x : Nat) : DS :=
  let D1 := whiteD x D
  let level := x % (D1.leads.length + 1)
  let D3 := cutD level (openD level x D1)
  let lead := leadOf x (lastLead D3.leads)
  let D4 := closeD lead D3
  wordsD (wordsF (x / 40 % 4) (x / 160 % 41)) { D4 with text := D4.text ++ lead }
noncomputable def draw0 : DS := ⟨[], [([], 0)], [[.i 259]]⟩
noncomputable def drawF (ns : List Nat) : DS := ns.foldl drawStep draw0
noncomputable def endSpine (D : DS) : List T := (closeN (leafT 6 (rowOf D.text) 0) (D.spine.length - 1) D.spine).headD [] ++ [leafT 0 (rowOf D.text) 0]

/-! the chunks of the walk -/
noncomputable def d1 : ST := sIf (bCmp .Eq (eBin .Mod (eBin .FloorDiv (eNm 5) (eInt 6560)) (eInt 3)) (eInt 0)) (sSeq (sExp (eApp fWrite (esCons (eNm 2) (esCons (eNeg (eInt 1)) (esCons (eStr [9, 32]) esNil))))) (sSeq (sExp (eMeth isListV mAppend (eIdx (eNm 4) (eNeg (eInt 1))) (esCons (eList (esCons (eInt 258) (esCons (eApp fWrite (esCons (eNm 2) (esCons (eInt 63) (esCons (eStr [10]) esNil)))) esNil))) esNil))) sPass)) sPass
noncomputable def d2 : ST := sAsg 6 (eBin .Mod (eNm 5) (eBin .Add (eApp bLen (esCons (eNm 3) esNil)) (eInt 1)))
noncomputable def d3b : ST := sIf (bCmp .Lt (eNm 9) (eInt 3)) (sSeq (sExp (eMeth isListV mAppend (eNm 3) (esCons (eList (esCons (eBin .Add (eNm 7) (eList (esCons (eBin .Add (eNm 9) (eInt 1)) (esCons (eInt 0) esNil)))) (esCons (eNm 8) esNil))) esNil))) sPass) (sSeq (sExp (eMeth isListV mAppend (eNm 3) (esCons (eList (esCons (eNm 7) (esCons (eBin .Add (eNm 8) (eInt 2)) esNil))) esNil))) sPass)
noncomputable def d3c : ST := sExp (eMeth isListV mAppend (eNm 4) (esCons (eList (esCons (eInt 257) (esCons (eList (esCons (eInt 5) (esCons (eIdx (eNm 2) (eInt 1)) (esCons (eInt 0) esNil)))) esNil))) esNil))
noncomputable def d3d : ST := sExp (eMeth isListV mAppend (eIdx (eNm 4) (eNeg (eInt 2))) (esCons (eIdx (eNm 4) (eNeg (eInt 1))) esNil))
noncomputable def d3 : ST := sIf (bCmp .Eq (eNm 6) (eApp bLen (esCons (eNm 3) esNil))) (sSeq (sTgt (tPair 7 8) (eIdx (eNm 3) (eNeg (eInt 1)))) (sSeq (sAsg 9 (eBin .Mod (eBin .FloorDiv (eNm 5) (eInt 5)) (eInt 4))) (sSeq d3b (sSeq d3c (sSeq d3d sPass))))) sPass
noncomputable def d4a : ST := sAsg 3 (eSlc (eNm 3) none (some (eBin .Add (eNm 6) (eInt 1))))
noncomputable def d4b : ST := sTgt (tPair 7 8) (eIdx (eNm 3) (eNeg (eInt 1)))
noncomputable def d4c : ST := sIf (bCmp .Eq (eBin .Mod (eBin .FloorDiv (eNm 5) (eInt 20)) (eInt 2)) (eInt 1)) (sSeq (sAsg 7 (eRev (eNm 7))) sPass) sPass
noncomputable def d4d : ST := sAsg 10 (eBin .Add (eMeth isStrV mJoin0 (eStr []) (esCons (eRuns 7) esNil)) (eBin .Mult (eStr [32]) (eNm 8)))
noncomputable def d6 : ST := sExp (eApp fWrite (esCons (eNm 2) (esCons (eNeg (eInt 1)) (esCons (eNm 10) esNil))))
noncomputable def d7a : ST := sAsg 11 (eList (esCons (eBin .Add (eInt 14) (eBin .Mod (eBin .FloorDiv (eNm 5) (eInt 160)) (eInt 41))) (esCons (eIdx (eNm 1) (eBin .Mod (eBin .FloorDiv (eNm 5) (eInt 160)) (eInt 41))) esNil)))
noncomputable def d7b : ST := sAsg 12 (eList (esCons (eInt 4) (esCons (eStr [10]) esNil)))
noncomputable def d7c : ST := sAsg 13 (eBin .Mod (eBin .FloorDiv (eNm 5) (eInt 40)) (eInt 4))
noncomputable def d7d : ST := sIf (bCmp .Eq (eNm 13) (eInt 0)) (sSeq (sAsg 14 (eList (esCons (eList (esCons (eInt 1) (esCons (eStr [97]) esNil))) (esCons (eNm 11) (esCons (eList (esCons (eInt 1) (esCons (eStr [98]) esNil))) (esCons (eNm 12) esNil)))))) sPass) (sSeq (sIf (bCmp .Eq (eNm 13) (eInt 1)) (sSeq (sAsg 14 (eList (esCons (eList (esCons (eInt 1) (esCons (eStr [97]) esNil))) (esCons (eList (esCons (eInt 7) (esCons (eStr [40]) esNil))) (esCons (eNm 11) (esCons (eList (esCons (eInt 63) (esCons (eStr [10]) esNil))) (esCons (eList (esCons (eNeg (eInt 1)) (esCons (eStr [32, 9]) esNil))) (esCons (eList (esCons (eInt 1) (esCons (eStr [98]) esNil))) (esCons (eList (esCons (eInt 8) (esCons (eStr [41]) esNil))) (esCons (eNm 12) esNil)))))))))) sPass) (sSeq (sIf (bCmp .Eq (eNm 13) (eInt 2)) (sSeq (sAsg 14 (eList (esCons (eList (esCons (eInt 3) (esCons (eBin .Add (eBin .Add (eStr [34, 92, 34, 40]) (eIdx (eNm 11) (eInt 1))) (eStr [34])) esNil))) (esCons (eNm 11) (esCons (eList (esCons (eInt 1) (esCons (eStr [97]) esNil))) (esCons (eNm 12) esNil)))))) sPass) (sSeq (sAsg 14 (eList (esCons (eList (esCons (eInt 1) (esCons (eStr [97]) esNil))) (esCons (eNm 11) (esCons (eList (esCons (eNeg (eInt 1)) (esCons (eStr [92, 10]) esNil))) (esCons (eList (esCons (eNeg (eInt 1)) (esCons (eStr [9]) esNil))) (esCons (eList (esCons (eInt 1) (esCons (eStr [98]) esNil))) (esCons (eNm 12) esNil)))))))) sPass)) sPass)) sPass)
noncomputable def d8a : ST := sAsg 15 (eList (esCons (eInt 256) esNil))
noncomputable def d8b : ST := sForL (eNm 14) (tPair 16 17) wDraw_b2
noncomputable def d8c : ST := sExp (eMeth isListV mAppend (eIdx (eNm 4) (eNeg (eInt 1))) (esCons (eNm 15) esNil))
theorem b5_chunks : wDraw_b5 = sSeq d1 (sSeq d2 (sSeq d3 (sSeq d4a (sSeq d4b (sSeq d4c (sSeq d4d (sSeq (sWhile wDraw_t4 wDraw_b3) (sSeq d6 (sSeq d7a (sSeq d7b (sSeq d7c (sSeq d7d (sSeq d8a (sSeq d8b (sSeq d8c sPass))))))))))))))) := rfl

theorem e_fdiv (x k : Nat) : Int.fdiv (x : Int) (k : Int) = ((x / k : Nat) : Int) := by
  rw [Int.fdiv_eq_ediv_of_nonneg _ (by lia)]; rfl
theorem e_fmod (x k : Nat) : Int.fmod (x : Int) (k : Int) = ((x % k : Nat) : Int) := by
  rw [Int.fmod_eq_emod_of_nonneg _ (by lia)]; rfl

structure DZ (D : DS) : Prop where
  text : D.text.length ≤ 2 ^ 18
  spine : ∀ ts ∈ D.spine, ts.length ≤ 2 ^ 18
  leads : D.leads.length ≤ 100
  ne : D.leads ≠ []
  runs : ∀ l ∈ D.leads, l.1.length ≤ 200 ∧ (∀ r ∈ l.1, r ≤ 16) ∧ l.2 ≤ 1000
  sp : D.spine ≠ []

section
variable {h : List O} {kp kl kb : Nat} {bs : List Nat} {D : DS} {l : Loc} {Q : Out → Loc → List O → Prop} {x : Nat}
theorem DI.bs_ne (I : DI h kp kl kb bs D) (z : D.spine ≠ []) : ∃ b bs', bs = b :: bs' := by
  have := I.ch.len
  match bs, this with
  | b :: bs', _ => exact ⟨b, bs', rfl⟩
  | [], e => exact absurd (List.length_eq_zero_iff.mp e.symm) z
theorem d1_ok (I : DI h kp kl kb bs D) (Z : DZ D) (h2 : l[2]? = some (some (.ref kp))) (h4 : l[4]? = some (some (.ref kb))) (h5 : l[5]? = some (some (.int (x : Int)))) (k : ∀ h', DI h' kp kl kb bs (whiteD x D) → GrX (Md kp kl kb bs) h h' → Q .next l h') : d1 l h Q := by
  have zt := Z.text
  obtain ⟨b, bs', hb⟩ := I.bs_ne Z.sp
  unfold d1
  refine ⟨_, h5, ⟨by decide, by decide⟩, by decide, ?_⟩
  have e : ((x : Int).fdiv 6560).fmod 3 = ((x / 6560 % 3 : Nat) : Int) := by
    rw [show (x : Int).fdiv 6560 = ((x / 6560 : Nat) : Int) from e_fdiv x 6560]
    exact e_fmod _ 3
  show (match decide (((x : Int).fdiv 6560).fmod 3 = 0) with | true => _ | false => _)
  rw [e]
  by_cases hx : x / 6560 % 3 = 0
  · rw [decide_eq_true (by lia : ((x / 6560 % 3 : Nat) : Int) = 0)]
    unfold whiteD at k
    rw [if_pos hx] at k
    refine ⟨_, h2, ?_⟩
    refine d_write I (by decide) (by simp; lia) fun h1 I1 g1 _ => ?_
    refine d_append I1 hb h4 ?_
    refine ⟨_, h2, ?_⟩
    refine d_write I1 (by decide) (by simp; lia) fun h2' I2 g2 t2 => ?_
    refine ⟨by simp, ?_⟩
    have I3 := I2.grow (Gr.snoc h2' (O.list [.int 258, .ref h1.length]))
    refine d_put I3 hb (t := .l [.i 258, leafT 63 (rowOf (D.text ++ [9, 32])) (colOf (D.text ++ [9, 32]))]) ?_ ?_ fun h4 g4 I4 => ?_
    · refine .l (I2.fresh (Nat.le_refl _)) (snoc_get _ _) (.cons (.i _) (.cons ?_ .nil))
      exact t2.step (fun _ _ _ e => snoc_old e) fun _ _ q => q
    · intro ts ht
      have := Z.spine ts ht
      lia
    · refine k h4 I4 ?_
      refine ((g1.weak ?_).trans (g2.weak ?_)).trans ((GrX.of (Gr.snoc _ _)).trans (g4.weak ?_))
      · rintro _ rfl; simp [Md]
      · rintro _ rfl; simp [Md]
      · rintro _ rfl; rw [hb]; simp [Md]
  · rw [decide_eq_false (by lia : ¬ ((x / 6560 % 3 : Nat) : Int) = 0)]
    unfold whiteD at k
    rw [if_neg hx] at k
    exact k h I (GrX.refl h)
theorem d2_ok (I : DI h kp kl kb bs D) (Z : DZ D) (h3 : l[3]? = some (some (.ref kl))) (h5 : l[5]? = some (some (.int (x : Int)))) (k : Q .next (l.set 6 (some (.int ((x % (D.leads.length + 1) : Nat) : Int)))) h) : d2 l h Q := by
  obtain ⟨ls, e, L⟩ := I.ld
  have zl := Z.leads
  have ll := L.length
  unfold d2
  refine ⟨_, h5, _, h3, _, ⟨.inl e, by lia⟩, ?_⟩
  refine ⟨by lia, ?_⟩
  have : (x : Int).fmod ((ls.length : Int) + 1) = ((x % (D.leads.length + 1) : Nat) : Int) := by
    rw [ll]
    exact e_fmod x (D.leads.length + 1)
  rw [this]
  exact k
end
end Mine
end

noncomputable section -- L3t
open PySem PySem.W PySem.Calls PyProof.Rows
set_option maxRecDepth 100000
set_option autoImplicit false
namespace Mine

section
variable {h h' : List O} {kp kl kb ko : Nat} {bs : List Nat} {D : DS} {Q : Out → Loc → List O → Prop} {x : Nat}
theorem DI.nds (I : DI h kp kl kb bs D) : (kp ≠ kl ∧ kp ≠ kb ∧ kp ∉ bs) ∧ (kl ≠ kb ∧ kl ∉ bs) ∧ kb ∉ bs ∧ bs.Nodup := by
  have nd := I.nd
  simp only [List.nodup_cons, List.mem_cons, not_or] at nd
  exact nd
theorem Md.p (kp kl kb : Nat) (bs : List Nat) : Md kp kl kb bs kp := .head _
theorem Md.l (kp kl kb : Nat) (bs : List Nat) : Md kp kl kb bs kl := .tail _ (.head _)
theorem Md.b (kp kl kb : Nat) (bs : List Nat) : Md kp kl kb bs kb := .tail _ (.tail _ (.head _))
theorem Md.s {kp kl kb : Nat} {bs : List Nat} {k : Nat} (hk : k ∈ bs) : Md kp kl kb bs k := .tail _ (.tail _ (.tail _ hk))
theorem DI.addLead (I : DI h kp kl kb bs D) {ls : List V} (e : h[kl]? = some (O.list ls)) {a r : Nat} {n : List Nat × Nat} (ma : ¬ Md kp kl kb bs a) (mr : ¬ Md kp kl kb bs r) (ha : h[a]? = some (O.list [.ref r, .int n.2])) (hr : h[r]? = some (O.list (vis n.1))) :
    DI (h.set kl (O.list (ls ++ [.ref a]))) kp kl kb bs { D with leads := D.leads ++ [n] } := by
  obtain ⟨⟨n1, n2, n3⟩, ⟨n4, n5⟩, n6, n7⟩ := I.nds
  have keep : ∀ (k : Nat) (o : O), k ≠ kl → h[k]? = some o → (h.set kl (O.list (ls ++ [.ref a])))[k]? = some o := fun k o hk e => by rw [set_other (Ne.symm hk)]; exact e
  have g : ∀ (k : Nat) (o : O), ¬ Md kp kl kb bs k → h[k]? = some o → (h.set kl (O.list (ls ++ [.ref a])))[k]? = some o := fun k o hk e => keep k o (fun q => hk (q ▸ Md.l ..)) e
  obtain ⟨ls', e', L⟩ := I.ld
  rw [e] at e'
  cases e'
  refine ⟨keep _ _ n1 I.page, ⟨_, set_self e, (L.step g fun _ _ q => q).append (.cons ma mr (g _ _ ma ha) (g _ _ mr hr) .nil)⟩, keep _ _ (Ne.symm n4) I.bl, I.ch.step g (fun _ _ q => q) fun k o hk e => keep k o (fun q => n5 (q ▸ hk)) e, I.nd⟩

theorem last_of {α : Type} {xs : List α} (h : xs ≠ []) : ∃ a b, xs = a ++ [b] := by
  rcases List.eq_nil_or_concat xs with q | ⟨a, b, q⟩
  · exact absurd q h
  · exact ⟨a, b, by rw [q, List.concat_eq_append]⟩
theorem vis_append (a b : List Nat) : vis a ++ vis b = vis (a ++ b) := by unfold vis; rw [List.map_append]

theorem d3b_ok (I : DI h kp kl kb bs D) {a0 a1 a10 a11 a12 a13 a14 a15 a16 a17 a18 : Option V} {lev : V} {kind : Nat} {ls : List V} {r : Nat} {l : List Nat × Nat} (e : h[kl]? = some (O.list ls)) (hls : ls.length ≤ 1000) (mr : ¬ Md kp kl kb bs r) (hr : h[r]? = some (O.list (vis l.1))) (hl : l.1.length ≤ 200)
    (k : ∀ h', DI h' kp kl kb bs { D with leads := D.leads ++ [newLead kind l] } → GrX (Md kp kl kb bs) h h' → Q .next [a0, a1, some (.ref kp), some (.ref kl), some (.ref kb), some (.int x), some lev, some (.ref r), some (.int l.2), some (.int kind), a10, a11, a12, a13, a14, a15, a16, a17, a18] h') :
    d3b [a0, a1, some (.ref kp), some (.ref kl), some (.ref kb), some (.int x), some lev, some (.ref r), some (.int l.2), some (.int kind), a10, a11, a12, a13, a14, a15, a16, a17, a18] h Q := by
  unfold d3b
  refine ⟨_, rfl, ?_⟩
  show (match decide ((kind : Int) < 3) with | true => _ | false => _)
  by_cases hk : kind < 3
  · rw [decide_eq_true (by lia : (kind : Int) < 3)]
    unfold newLead at k
    rw [if_pos hk] at k
    refine ⟨_, rfl, ⟨_, _, rfl, e⟩, ?_⟩
    refine ⟨_, rfl, _, rfl, by simp, ?_⟩
    have k1 : (h ++ [O.list [.int ((kind : Int) + 1), .int 0]])[r]? = some (O.list (vis l.1)) := snoc_old hr
    refine ⟨_, _, ⟨k1, snoc_get _ _, by rw [vis_len]; simp; lia⟩, ?_⟩
    have e2 : vis l.1 ++ [V.int ((kind : Int) + 1), .int 0] = vis (l.1 ++ [kind + 1, 0]) := by unfold vis; simp
    rw [e2]
    refine ⟨_, rfl, by simp, ?_⟩
    have g : Gr h (h ++ [O.list [.int ((kind : Int) + 1), .int 0]] ++ [O.list (vis (l.1 ++ [kind + 1, 0]))] ++ [O.list [.ref (h ++ [O.list [.int ((kind : Int) + 1), .int 0]]).length, .int l.2]]) := ((Gr.snoc _ _).trans (Gr.snoc _ _)).trans (Gr.snoc _ _)
    refine ⟨_, ⟨g.get e, by lia⟩, ?_⟩
    refine k _ ((I.grow g).addLead (n := (l.1 ++ [kind + 1, 0], l.2)) (g.get e) (I.fresh (by simp)) (I.fresh (by simp)) (snoc_get _ _) (snoc_old (snoc_get _ _))) ?_
    exact (GrX.of g).set (.inl (Md.l ..))
  · rw [decide_eq_false (by lia : ¬ (kind : Int) < 3)]
    unfold newLead at k
    rw [if_neg hk] at k
    refine ⟨_, rfl, ⟨_, _, rfl, e⟩, ?_⟩
    refine ⟨_, rfl, _, rfl, by simp, ?_⟩
    refine ⟨_, ⟨snoc_old e, by lia⟩, ?_⟩
    have g : Gr h (h ++ [O.list [.ref r, .int ((l.2 : Int) + 2)]]) := Gr.snoc _ _
    refine k _ ((I.grow g).addLead (n := (l.1, l.2 + 2)) (g.get e) (I.fresh (Nat.le_refl _)) mr (snoc_get _ _) (snoc_old hr)) ?_
    exact (GrX.of g).set (.inl (Md.l ..))

theorem d3c_ok (I : DI h kp kl kb bs D) {l : Loc} (h2 : l[2]? = some (some (.ref kp))) (h4 : l[4]? = some (some (.ref kb))) (hz : bs.length ≤ 1000)
    (k : ∀ h' b', h.length ≤ b' → GrX (Md kp kl kb bs) h h' → h'[kb]? = some (O.list (bs.reverse.map .ref ++ [.ref b'])) → (∀ (k : Nat) (o : O), k ≠ kb → h[k]? = some o → h'[k]? = some o) → b' < h'.length →
      (∃ f, f ≠ kb ∧ h.length ≤ f ∧ f ≠ b' ∧ h'[b']? = some (O.list [.int 257, .ref f]) ∧ h'[f]? = some (O.list [.int 5, .int (rowOf D.text), .int 0])) → Q .next l h') : d3c l h Q := by
  unfold d3c
  refine ⟨_, h4, ⟨_, _, rfl, I.bl⟩, ?_⟩
  refine ⟨_, h2, _, _, ⟨.inl I.page, sm1, rfl⟩, by simp, by simp, ?_⟩
  have g : Gr h (h ++ [O.list [.int 5, .int (rowOf D.text), .int 0]] ++ [O.list [.int 257, .ref h.length]]) := (Gr.snoc _ _).trans (Gr.snoc _ _)
  have hb := get_lt I.bl
  refine ⟨_, ⟨g.get I.bl, by simp; lia⟩, ?_⟩
  have keep : ∀ (k : Nat) (o : O), k ≠ kb → h[k]? = some o → ((h ++ [O.list [.int 5, .int (rowOf D.text), .int 0]] ++ [O.list [.int 257, .ref h.length]]).set kb (O.list (bs.reverse.map .ref ++ [.ref (h ++ [O.list [.int 5, .int (rowOf D.text), .int 0]]).length])))[k]? = some o :=
    fun k o hk e => by rw [set_other (Ne.symm hk)]; exact g.get e
  refine k _ (h ++ [O.list [.int 5, .int (rowOf D.text), .int 0]]).length (by simp) ((GrX.of g).set (.inl (Md.b ..))) (set_self (g.get I.bl)) keep (by simp) ⟨h.length, by lia, Nat.le_refl _, by simp, ?_, ?_⟩
  · have ne : kb ≠ (h ++ [O.list [.int 5, .int (rowOf D.text), .int 0]]).length := by simp; lia
    rw [set_other ne]; exact snoc_get _ _
  · have ne : kb ≠ h.length := by lia
    rw [set_other ne]; exact snoc_old (snoc_get _ _)

theorem at_last2 {α : Type} (xs : List α) (x y : α) : at? (xs ++ [x] ++ [y]) (-2) = some x := by
  unfold at?
  have e : (xs ++ [x] ++ [y]).length = xs.length + 2 := by simp
  rw [if_neg (by decide), e, if_pos (by lia)]
  have : ((-2 : Int) + ((xs.length + 2 : Nat) : Int)).toNat = xs.length := by lia
  rw [this]
  simp
theorem smn2 : small (-2) := by unfold small; decide
theorem d3cd_ok (I : DI h kp kl kb bs D) (Z : D.spine ≠ []) (zs : ∀ ts ∈ D.spine, ts.length ≤ 2 ^ 20) {l : Loc} (h2 : l[2]? = some (some (.ref kp))) (h4 : l[4]? = some (some (.ref kb))) (hz : bs.length ≤ 1000)
    (k : ∀ h' b', h.length ≤ b' → DI h' kp kl kb (b' :: bs) { D with spine := [.i 257, leafT 5 (rowOf D.text) 0] :: D.spine } → GrX (Md kp kl kb bs) h h' → Q .next l h') : sSeq d3c (sSeq d3d sPass) l h Q := by
  obtain ⟨b, bs', hb⟩ := I.bs_ne Z
  refine d3c_ok I h2 h4 hz fun h1 b' lb g e keep lt1 hf => ?_
  show sSeq d3d sPass l h1 Q
  obtain ⟨f, f1, f2, f3, f4, f5⟩ := hf
  obtain ⟨vs, ts, tss, esp, hv, tt⟩ := I.topv hb
  obtain ⟨⟨n1, n2, n3⟩, ⟨n4, n5⟩, n6, n7⟩ := I.nds
  have hbk : b ≠ kb := fun q => n6 (by rw [hb, ← q]; exact .head _)
  have hblt : b < h.length := get_lt hv
  have hv1 := keep _ _ hbk hv
  unfold d3d
  have e2 : h1[kb]? = some (O.list (bs'.reverse.map .ref ++ [.ref b] ++ [.ref b'])) := by
    rw [e, hb]; simp
  refine ⟨_, h4, _, _, ⟨.inl e2, smn2, at_last2 _ _ _⟩, ?_⟩
  refine ⟨⟨_, _, rfl, hv1⟩, ?_⟩
  refine ⟨_, h4, _, _, ⟨.inl e2, smn1, at_last _ _⟩, ?_⟩
  refine ⟨_, ⟨hv1, by rw [tt.length]; exact zs ts (by rw [esp]; exact .head _)⟩, ?_⟩
  have nb : ∀ {k : Nat}, Md kp kl kb bs k → k < h.length := fun q => I.lt _ q
  have hk2 : ∀ (k : Nat) (o : O), k ≠ kb → k ≠ b → h[k]? = some o → (h1.set b (O.list (vs ++ [.ref b'])))[k]? = some o := fun k o q1 q2 e => by
    rw [set_other (Ne.symm q2)]; exact keep k o q1 e
  have gg : ∀ (k : Nat) (o : O), ¬ Md kp kl kb bs k → h[k]? = some o → (h1.set b (O.list (vs ++ [.ref b'])))[k]? = some o := fun k o hk e => hk2 k o (fun q => hk (q ▸ Md.b ..)) (fun q => hk (q ▸ Md.s (by rw [hb]; exact .head _))) e
  have mm : ∀ k, k < h.length → Md kp kl kb (b' :: bs) k → Md kp kl kb bs k := fun k hk q => by
    unfold Md at q ⊢
    simp only [List.mem_cons] at q ⊢
    rcases q with q | q | q | q | q
    · exact .inl q
    · exact .inr (.inl q)
    · exact .inr (.inr (.inl q))
    · lia
    · exact .inr (.inr (.inr q))
  have pnb : ∀ k ∈ bs, k ≠ kb := fun k hk q => n6 (q ▸ hk)
  have b'ne : b ≠ b' := by lia
  refine k _ b' lb ?_ (g.set (.inl (Md.s (by rw [hb]; exact .head _))))
  obtain ⟨ls, el, L⟩ := I.ld
  have bmem : b ∈ bs := by rw [hb]; exact .head _
  refine ⟨hk2 _ _ n2 (fun q => n3 (q ▸ bmem)) I.page, ⟨ls, hk2 _ _ n4 (fun q => n5 (q ▸ bmem)) el, L.step gg mm⟩, ?_, ?_, ?_⟩
  · rw [set_other hbk, e]; simp
  · refine .cons (vs := [.int 257, .ref f]) ?_ (.cons (.i _) (.cons (.l ?_ ?_ (.cons (.i _) (.cons (.i _) (.cons (.i _) .nil)))) .nil)) ?_
    · rw [set_other b'ne]; exact f4
    · intro q
      unfold Md at q
      simp only [List.mem_cons] at q
      rcases q with q | q | q | q | q
      · exact absurd (nb (q ▸ Md.p ..)) (Nat.not_lt.mpr f2)
      · exact absurd (nb (q ▸ Md.l ..)) (Nat.not_lt.mpr f2)
      · exact f1 q
      · exact f3 q
      · exact absurd (nb (Md.s q)) (Nat.not_lt.mpr f2)
    · have : b ≠ f := by lia
      rw [set_other this]; exact f5
    · have C := I.ch
      subst hb
      generalize D.spine = sp at C ⊢
      cases C with
      | cons e1 t1 c1 =>
        rw [hv] at e1
        simp only [linkV, List.append_nil, Option.some.injEq, O.list.injEq] at e1
        subst e1
        refine .cons (by rw [set_self hv1]; rfl) (t1.step gg mm) ?_
        rw [List.nodup_cons] at n7
        exact c1.step gg mm fun k o hk e => hk2 k o (pnb k (.tail _ hk)) (fun q => n7.1 (q ▸ hk)) e
  · have q : b' ∉ bs := fun q => absurd (nb (Md.s q)) (Nat.not_lt.mpr lb)
    have q1 : b' ≠ kp := fun q => absurd (nb (q ▸ Md.p ..)) (Nat.not_lt.mpr lb)
    have q2 : b' ≠ kl := fun q => absurd (nb (q ▸ Md.l ..)) (Nat.not_lt.mpr lb)
    have q3 : b' ≠ kb := fun q => absurd (nb (q ▸ Md.b ..)) (Nat.not_lt.mpr lb)
    simp only [List.nodup_cons, List.mem_cons, not_or]
    exact ⟨⟨n1, n2, Ne.symm q1, n3⟩, ⟨n4, Ne.symm q2, n5⟩, ⟨Ne.symm q3, n6⟩, q, n7⟩
end
end Mine
end

noncomputable section -- L3u
open PySem PySem.W PySem.Calls PyProof.Rows
set_option maxRecDepth 100000
set_option autoImplicit false
namespace Mine

/-- what stands outside the one set stands on, outside the other -/
noncomputable def Fw (M M' : Nat → Prop) (h h' : List O) : Prop := ∀ (k : Nat) (o : O), ¬ M k → h[k]? = some o → h'[k]? = some o ∧ ¬ M' k
theorem Fw.refl {M : Nat → Prop} {h : List O} : Fw M M h h := fun _ _ n e => ⟨e, n⟩
theorem Fw.trans {M M' M'' : Nat → Prop} {h h' h'' : List O} (x : Fw M M' h h') (y : Fw M' M'' h' h'') : Fw M M'' h h'' := fun k o n e => y k o (x k o n e).2 (x k o n e).1
theorem Fw.of {M M' : Nat → Prop} {h h' : List O} (g : GrX M h h') (m : ∀ k, k < h.length → M' k → M k) : Fw M M' h h' := fun k o n e => ⟨g.keep k o n e, fun q => n (m k (get_lt e) q)⟩
theorem Fw.same {M : Nat → Prop} {h h' : List O} (g : GrX M h h') : Fw M M h h' := Fw.of g fun _ _ q => q

theorem last_lead (a : List (List Nat × Nat)) (b : List Nat × Nat) : lastLead (a ++ [b]) = b := by
  unfold lastLead
  rw [List.getLastD_eq_getLast?]
  simp
section
variable {h h' : List O} {kp kl kb ko : Nat} {bs : List Nat} {D : DS} {Q : Out → Loc → List O → Prop} {x lev : Nat}
theorem d3_ok (I : DI h kp kl kb bs D) (Z : DZ D) (zsl : D.spine.length ≤ 100) {a0 a1 a7 a8 a9 a10 a11 a12 a13 a14 a15 a16 a17 a18 : Option V} {R : ST}
    (k : ∀ h' bs' a7' a8' a9', DI h' kp kl kb bs' (openD lev x D) → Fw (Md kp kl kb bs) (Md kp kl kb bs') h h' → R [a0, a1, some (.ref kp), some (.ref kl), some (.ref kb), some (.int x), some (.int lev), a7', a8', a9', a10, a11, a12, a13, a14, a15, a16, a17, a18] h' Q) :
    sSeq d3 R [a0, a1, some (.ref kp), some (.ref kl), some (.ref kb), some (.int x), some (.int lev), a7, a8, a9, a10, a11, a12, a13, a14, a15, a16, a17, a18] h Q := by
  obtain ⟨ls, e, L⟩ := I.ld
  have zl := Z.leads
  have ll := L.length
  unfold d3
  refine ⟨_, rfl, _, rfl, _, ⟨.inl e, by lia⟩, ?_⟩
  show (match decide ((lev : Int) = (ls.length : Int)) with | true => _ | false => _)
  by_cases hx : lev = D.leads.length
  · rw [decide_eq_true (by lia : (lev : Int) = (ls.length : Int))]
    unfold openD at k
    rw [if_pos hx] at k
    obtain ⟨li, l, el⟩ := last_of Z.ne
    have elast : lastLead D.leads = l := by rw [el]; exact last_lead _ _
    rw [el] at L
    obtain ⟨vs, a, r, rfl, ma, mr, ha, hr, _⟩ := L.last
    have hzr := (Z.runs l (by rw [el]; simp)).1
    refine ⟨_, rfl, _, _, ⟨.inl e, smn1, at_last _ _⟩, _, _, .inr ha, ?_⟩
    refine ⟨_, rfl, ⟨by decide, by decide⟩, by decide, ?_⟩
    have e5 : ((x : Int).fdiv 5).fmod 4 = ((x / 5 % 4 : Nat) : Int) := by
      rw [show (x : Int).fdiv 5 = ((x / 5 : Nat) : Int) from e_fdiv x 5]
      exact e_fmod _ 4
    rw [e5]
    refine d3b_ok I e (by lia) mr hr hzr fun h1 I1 g1 => ?_
    rw [← elast] at I1
    refine d3cd_ok I1 Z.sp (fun ts ht => Nat.le_trans (Z.spine ts ht) (by decide)) rfl rfl (by have := I.ch.len; lia) fun h2 b' lb I2 g2 => ?_
    refine k h2 (b' :: bs) _ _ _ I2 (Fw.of (g1.trans g2) fun k hk q => ?_)
    unfold Md at q ⊢
    have := g1.len
    simp only [List.mem_cons] at q ⊢
    rcases q with q | q | q | q | q
    · exact .inl q
    · exact .inr (.inl q)
    · exact .inr (.inr (.inl q))
    · lia
    · exact .inr (.inr (.inr q))
  · rw [decide_eq_false (by lia : ¬ (lev : Int) = (ls.length : Int))]
    unfold openD at k
    rw [if_neg hx] at k
    exact k h bs _ _ _ I Fw.refl

theorem cut_take {α : Type} (xs : List α) (n : Nat) : cut xs none (some ((n : Int) + 1)) = xs.take (n + 1) := by
  unfold cut kms_lo kms_hi
  have : ¬ ((n : Int) + 1 < 0) := by lia
  simp only [if_neg this, List.drop_zero, Nat.sub_zero]
  have e : ((n : Int) + 1).toNat = n + 1 := by lia
  rw [e]
  simp [List.take_eq_take_iff]
theorem DI.newLeads (I : DI h kp kl kb bs D) {ls : List V} (e : h[kl]? = some (O.list ls)) (n : Nat) : DI (h ++ [O.list (ls.take n)]) kp h.length kb bs { D with leads := D.leads.take n } := by
  obtain ⟨⟨n1, n2, n3⟩, ⟨n4, n5⟩, n6, n7⟩ := I.nds
  obtain ⟨ls', e', L⟩ := I.ld
  rw [e] at e'
  cases e'
  have m : ∀ k, k < h.length → Md kp h.length kb bs k → Md kp kl kb bs k := fun k hk q => by
    unfold Md at q ⊢
    simp only [List.mem_cons] at q ⊢
    rcases q with q | q | q | q
    · exact .inl q
    · lia
    · exact .inr (.inr (.inl q))
    · exact .inr (.inr (.inr q))
  have g : ∀ (k : Nat) (o : O), ¬ Md kp kl kb bs k → h[k]? = some o → (h ++ [O.list (ls.take n)])[k]? = some o := fun k o _ e => snoc_old e
  refine ⟨snoc_old I.page, ⟨_, snoc_get _ _, (L.step g m).take n⟩, snoc_old I.bl, I.ch.step g m fun k o _ e => snoc_old e, ?_⟩
  have q1 : h.length ≠ kp := fun q => absurd (get_lt I.page) (by lia)
  have q2 : h.length ≠ kb := fun q => absurd (get_lt I.bl) (by lia)
  have q3 : h.length ∉ bs := fun q => absurd (I.lt _ (Md.s q)) (by lia)
  simp only [List.nodup_cons, List.mem_cons, not_or]
  exact ⟨⟨Ne.symm q1, n2, n3⟩, ⟨q2, q3⟩, n6, n7⟩

theorem runs_len : ∀ (rs : List Nat), (∀ r ∈ rs, r ≤ 16) → ((rs.map fun (r : Nat) => runOf (r : Int)).flatten).length ≤ rs.length * 17
  | [], _ => by simp
  | r :: rs, h => by
    have h1 := runs_len rs fun y hy => h y (.tail _ hy)
    have h2 := h r (.head _)
    simp only [List.map_cons, List.flatten_cons, List.length_append, List.length_cons]
    have : (runOf (r : Int)).length = r + 1 := by unfold runOf; simp
    lia
theorem lead_len (l : List Nat × Nat) (h : ∀ r ∈ l.1, r ≤ 16) : (leadText l).length ≤ l.1.length * 17 + l.2 := by
  unfold leadText
  have := runs_len l.1 h
  simp only [List.length_append, List.length_replicate]
  lia
theorem lead_blank (l : List Nat × Nat) : ∀ c ∈ leadText l, blank c := by
  intro c hc
  unfold leadText at hc
  rcases List.mem_append.mp hc with hc | hc
  · simp only [List.mem_flatten, List.mem_map] at hc
    obtain ⟨_, ⟨r, _, rfl⟩, hc⟩ := hc
    unfold runOf at hc
    rcases List.mem_append.mp hc with hc | hc
    · exact .inl (List.eq_of_mem_replicate hc)
    · exact .inr (List.mem_singleton.mp hc)
  · exact .inl (List.eq_of_mem_replicate hc)
theorem lead_no (l : List Nat × Nat) : 10 ∉ leadText l := fun q => by
  rcases lead_blank l _ q with h | h <;> cases h
theorem rep32 (n : Nat) : (List.replicate n [32]).flatten = List.replicate n 32 := by
  induction n with
  | zero => rfl
  | succ n ih => rw [List.replicate_succ, List.flatten_cons, ih]; rfl

theorem d4d_ok {a0 a1 a2 a3 a4 a5 a6 a9 a10 a11 a12 a13 a14 a15 a16 a17 a18 : Option V} {r : Nat} {l : List Nat × Nat} (hr : h[r]? = some (O.list (vis l.1))) (hl : l.1.length ≤ 200 ∧ (∀ r ∈ l.1, r ≤ 16) ∧ l.2 ≤ 1000)
    (k : ∀ h', Gr h h' → Q .next [a0, a1, a2, a3, a4, a5, a6, some (.ref r), some (.int l.2), a9, some (.str (leadText l)), a11, a12, a13, a14, a15, a16, a17, a18] h') :
    d4d [a0, a1, a2, a3, a4, a5, a6, some (.ref r), some (.int l.2), a9, a10, a11, a12, a13, a14, a15, a16, a17, a18] h Q := by
  obtain ⟨l1, l2, l3⟩ := hl
  have e1 : vis l.1 = (l.1.map fun (x : Nat) => (x : Int)).map .int := by unfold vis; simp
  rw [e1] at hr
  unfold d4d
  refine ⟨⟨_, rfl⟩, ?_⟩
  refine ⟨r, l.1.map fun (x : Nat) => (x : Int), ⟨rfl, hr, by simp; lia, ?_⟩, ?_⟩
  · intro y hy
    obtain ⟨n, hn, rfl⟩ := List.mem_map.mp hy
    have := l2 n hn
    lia
  · have e2 : ((l.1.map fun (x : Nat) => (x : Int)).map fun x => V.str (runOf x)) = (l.1.map fun (r : Nat) => runOf (r : Int)).map .str := by simp
    rw [e2]
    have hlen := runs_len l.1 l2
    refine ⟨l.1.map fun (r : Nat) => runOf (r : Int), ⟨rfl, snoc_get _ _, by lia⟩, ?_⟩
    refine ⟨_, rfl, ⟨by lia, by lia, by decide⟩, ?_⟩
    rw [Int.toNat_natCast, rep32]
    refine ⟨by rw [List.length_replicate]; lia, ?_⟩
    exact k _ (Gr.snoc _ _)

theorem DZ.take (Z : DZ D) (n : Nat) : (∀ l ∈ D.leads.take (n + 1), l.1.length ≤ 200 ∧ (∀ r ∈ l.1, r ≤ 16) ∧ l.2 ≤ 1000) ∧ D.leads.take (n + 1) ≠ [] := by
  refine ⟨fun l hl => Z.runs l (List.mem_of_mem_take hl), fun q => ?_⟩
  have := Z.ne
  simp at q
  exact this q
theorem d4_ok (I : DI h kp kl kb bs D) (Z : DZ D) {a0 a1 a7 a8 a9 a10 a11 a12 a13 a14 a15 a16 a17 a18 : Option V} {R : ST}
    (k : ∀ h' kl' a7' a8', DI h' kp kl' kb bs (cutD lev D) → Fw (Md kp kl kb bs) (Md kp kl' kb bs) h h' → R [a0, a1, some (.ref kp), some (.ref kl'), some (.ref kb), some (.int x), some (.int lev), a7', a8', a9, some (.str (leadOf x (lastLead (cutD lev D).leads))), a11, a12, a13, a14, a15, a16, a17, a18] h' Q) :
    sSeq d4a (sSeq d4b (sSeq d4c (sSeq d4d R))) [a0, a1, some (.ref kp), some (.ref kl), some (.ref kb), some (.int x), some (.int lev), a7, a8, a9, a10, a11, a12, a13, a14, a15, a16, a17, a18] h Q := by
  obtain ⟨ls, e, L⟩ := I.ld
  have zl := Z.leads
  have ll := L.length
  obtain ⟨zr, zn⟩ := Z.take lev
  unfold d4a
  refine ⟨_, rfl, _, rfl, _, ⟨e, by lia⟩, ?_⟩
  rw [cut_take]
  have I1 := I.newLeads e (lev + 1)
  have f1 : Fw (Md kp kl kb bs) (Md kp h.length kb bs) h (h ++ [O.list (ls.take (lev + 1))]) := by
    refine Fw.of (GrX.of (Gr.snoc _ _)) fun k hk q => ?_
    unfold Md at q ⊢
    simp only [List.mem_cons] at q ⊢
    rcases q with q | q | q | q
    · exact .inl q
    · lia
    · exact .inr (.inr (.inl q))
    · exact .inr (.inr (.inr q))
  show sSeq d4b (sSeq d4c (sSeq d4d R)) [a0, a1, some (.ref kp), some (.ref h.length), some (.ref kb), some (.int x), some (.int lev), a7, a8, a9, a10, a11, a12, a13, a14, a15, a16, a17, a18] _ Q
  have eq1 : (cutD lev D).leads = D.leads.take (lev + 1) := rfl
  rw [eq1] at k
  obtain ⟨li, l, el⟩ := last_of zn
  have elast : lastLead (D.leads.take (lev + 1)) = l := by rw [el]; exact last_lead _ _
  rw [elast] at k
  have hlr := zr l (by rw [el]; simp)
  obtain ⟨ls2, e2, L2⟩ := I1.ld
  have L3 : LdR _ _ ls2 (D.leads.take (lev + 1)) := L2
  rw [el] at L3
  obtain ⟨vs, a, r, rfl, ma, mr, ha, hr, _⟩ := L3.last
  unfold d4b
  refine ⟨_, rfl, _, _, ⟨.inl e2, smn1, at_last _ _⟩, _, _, .inr ha, ?_⟩
  show sSeq d4c (sSeq d4d R) [a0, a1, some (.ref kp), some (.ref h.length), some (.ref kb), some (.int x), some (.int lev), some (.ref r), some (.int l.2), a9, a10, a11, a12, a13, a14, a15, a16, a17, a18] _ Q
  unfold d4c
  refine ⟨_, rfl, ⟨by decide, by decide⟩, by decide, ?_⟩
  have e5 : ((x : Int).fdiv 20).fmod 2 = ((x / 20 % 2 : Nat) : Int) := by
    rw [show (x : Int).fdiv 20 = ((x / 20 : Nat) : Int) from e_fdiv x 20]
    exact e_fmod _ 2
  show (match decide (((x : Int).fdiv 20).fmod 2 = 1) with | true => _ | false => _)
  rw [e5]
  unfold leadOf at k
  by_cases hx : x / 20 % 2 = 1
  · rw [decide_eq_true (by lia : ((x / 20 % 2 : Nat) : Int) = 1)]
    rw [if_pos hx] at k
    refine ⟨_, rfl, _, ⟨hr, by rw [vis_len]; lia⟩, ?_⟩
    have ev : (vis l.1).reverse = vis l.1.reverse := by unfold vis; rw [List.map_reverse]
    rw [ev]
    show sSeq d4d R [a0, a1, some (.ref kp), some (.ref h.length), some (.ref kb), some (.int x), some (.int lev), some (.ref _), some (.int l.2), a9, a10, a11, a12, a13, a14, a15, a16, a17, a18] _ Q
    refine d4d_ok (l := (l.1.reverse, l.2)) (snoc_get _ _) ⟨by simpa using hlr.1, fun r hr => hlr.2.1 r (by simpa using hr), hlr.2.2⟩ fun h2 g2 => ?_
    have gg := (Gr.snoc (h ++ [O.list (ls.take (lev + 1))]) (O.list (vis l.1.reverse))).trans g2
    exact k h2 h.length _ _ (I1.grow gg) (f1.trans (Fw.same (GrX.of gg)))
  · rw [decide_eq_false (by lia : ¬ ((x / 20 % 2 : Nat) : Int) = 1)]
    rw [if_neg hx] at k
    show sSeq d4d R [a0, a1, some (.ref kp), some (.ref h.length), some (.ref kb), some (.int x), some (.int lev), some (.ref r), some (.int l.2), a9, a10, a11, a12, a13, a14, a15, a16, a17, a18] _ Q
    refine d4d_ok hr hlr fun h2 g2 => ?_
    exact k h2 h.length _ _ (I1.grow g2) (f1.trans (Fw.same (GrX.of g2)))
end
end Mine
end

noncomputable section -- L3v
open PySem PySem.W PySem.Calls PyProof.Rows
set_option maxRecDepth 100000
set_option autoImplicit false
namespace Mine

section
variable {h h' : List O} {kp kl kb ko : Nat} {bs : List Nat} {D : DS} {Q : Out → Loc → List O → Prop} {x lev : Nat}

/-- blocks.pop() -/
theorem DI.pop {b b2 : Nat} {bs0 : List Nat} {a c : List T} {tss : List (List T)} (I : DI h kp kl kb (b :: b2 :: bs0) D) (hD : D.spine = a :: c :: tss) :
    DI (h.set kb (O.list ((b2 :: bs0).reverse.map .ref))) kp kl kb (b2 :: bs0) { D with spine := (c ++ [.l a]) :: tss } := by
  obtain ⟨⟨n1, n2, n3⟩, ⟨n4, n5⟩, n6, n7⟩ := I.nds
  have keep : ∀ (k : Nat) (o : O), k ≠ kb → h[k]? = some o → (h.set kb (O.list ((b2 :: bs0).reverse.map .ref)))[k]? = some o := fun k o hk e => by rw [set_other (Ne.symm hk)]; exact e
  have g : ∀ (k : Nat) (o : O), ¬ Md kp kl kb (b :: b2 :: bs0) k → h[k]? = some o → (h.set kb (O.list ((b2 :: bs0).reverse.map .ref)))[k]? = some o := fun k o hk e => keep k o (fun q => hk (q ▸ Md.b ..)) e
  have m : ∀ k, k < h.length → Md kp kl kb (b2 :: bs0) k → Md kp kl kb (b :: b2 :: bs0) k := fun k _ q => by
    unfold Md at q ⊢
    simp only [List.mem_cons] at q ⊢
    rcases q with q | q | q | q
    · exact .inl q
    · exact .inr (.inl q)
    · exact .inr (.inr (.inl q))
    · exact .inr (.inr (.inr (.inr q)))
  obtain ⟨ls, e, L⟩ := I.ld
  have pk : ∀ k ∈ b :: b2 :: bs0, k ≠ kb := fun k hk q => n6 (q ▸ hk)
  refine ⟨keep _ _ n2 I.page, ⟨ls, keep _ _ n4 e, L.step g m⟩, set_self I.bl, ?_, ?_⟩
  · have C := I.ch
    rw [hD] at C
    show Chain _ _ _ _ ((c ++ [.l a]) :: tss)
    cases C with
    | cons e1 t1 c1 =>
      cases c1 with
      | cons e2 t2 c2 =>
        simp only [linkV, List.append_nil] at e1
        refine .cons (vs := _ ++ [.ref b]) ?_ ((t2.step g m).append (.one (.l ?_ (keep _ _ (pk b (.head _)) e1) (t1.step g m)))) ?_
        · rw [keep _ _ (pk b2 (.tail _ (.head _))) e2]; simp [linkV]
        · intro q
          unfold Md at q
          rw [List.nodup_cons] at n7
          have q0 := List.mem_cons.mp q
          rcases q0 with q | q
          · exact n3 (q ▸ .head _)
          rcases List.mem_cons.mp q with q | q
          · exact n5 (q ▸ .head _)
          rcases List.mem_cons.mp q with q | q
          · exact n6 (q ▸ .head _)
          · exact n7.1 q
        · exact c2.step g m fun k o hk e => keep k o (pk k (.tail _ (.tail _ hk))) e
  · have nd := I.nd
    simp only [List.nodup_cons, List.mem_cons, not_or] at nd ⊢
    obtain ⟨⟨p1, p2, p3, p4, p5⟩, ⟨p6, p7, p8, p9⟩, ⟨p10, p11, p12⟩, ⟨p13, p14⟩, p15, p16⟩ := nd
    exact ⟨⟨p1, p2, p4, p5⟩, ⟨p6, p8, p9⟩, ⟨p11, p12⟩, p15, p16⟩

theorem Md.pop {b : Nat} {k : Nat} (q : Md kp kl kb bs k) : Md kp kl kb (b :: bs) k := by
  unfold Md at q ⊢
  simp only [List.mem_cons] at q ⊢
  rcases q with q | q | q | q
  · exact .inl q
  · exact .inr (.inl q)
  · exact .inr (.inr (.inl q))
  · exact .inr (.inr (.inr (.inr q)))
/-- the step that closes one block, the sixth leaf's column at hand -/
theorem close_turn {w : ST} {col : Nat} {ec : EV} {l : Loc} (hw : w = sSeq (sExp (eMeth isListV mAppend (eIdx (eNm 4) (eNeg (eInt 1))) (esCons (eList (esCons (eInt 6) (esCons (eIdx (eNm 2) (eInt 1)) (esCons ec esNil)))) esNil))) (sSeq (sExp (eMeth isListV mPop (eNm 4) esNil)) sPass))
    (hc : ∀ h P, P (.int col) h → ec l h P) (h2 : l[2]? = some (some (.ref kp))) (h4 : l[4]? = some (some (.ref kb))) {b b2 : Nat} {bs0 : List Nat} {a c : List T} {tss : List (List T)} (I : DI h kp kl kb (b :: b2 :: bs0) D) (hD : D.spine = a :: c :: tss) (hz : ∀ ts ∈ D.spine, ts.length ≤ 2 ^ 19) (hb : bs0.length ≤ 1000)
    (k : ∀ h', DI h' kp kl kb (b2 :: bs0) { D with spine := close1 (leafT 6 (rowOf D.text) col) D.spine } → Fw (Md kp kl kb (b :: b2 :: bs0)) (Md kp kl kb (b2 :: bs0)) h h' → Q .next l h') : w l h Q := by
  subst hw
  refine d_append I rfl h4 ?_
  refine ⟨_, h2, _, _, ⟨.inl I.page, sm1, rfl⟩, ?_⟩
  refine hc _ _ ?_
  refine ⟨by simp, ?_⟩
  have I1 := I.grow (Gr.snoc h (O.list [.int 6, .int (rowOf D.text), .int col]))
  refine d_put I1 rfl (t := leafT 6 (rowOf D.text) col) ?_ (fun ts ht => Nat.le_trans (hz ts ht) (by decide)) fun h3 g3 I3 => ?_
  · exact .l (I.fresh (Nat.le_refl _)) (snoc_get _ _) (.cons (.i _) (.cons (.i _) (.cons (.i _) .nil)))
  · have hD3 : pushTop (leafT 6 (rowOf D.text) col) D.spine = (a ++ [leafT 6 (rowOf D.text) col]) :: c :: tss := by rw [hD]; rfl
    show sSeq (sExp (eMeth isListV mPop (eNm 4) esNil)) sPass l h3 Q
    refine ⟨_, h4, ⟨_, _, rfl, I3.bl⟩, ?_⟩
    have e : h3[kb]? = some (O.list ((b2 :: bs0).reverse.map .ref ++ [.ref b])) := by rw [I3.bl]; simp
    refine ⟨_, _, ⟨e, by simp; lia⟩, ?_⟩
    have I4 := I3.pop (a := a ++ [leafT 6 (rowOf D.text) col]) (c := c) (tss := tss) hD3
    have e1 : close1 (leafT 6 (rowOf D.text) col) D.spine = (c ++ [.l (a ++ [leafT 6 (rowOf D.text) col])]) :: tss := by rw [hD]; rfl
    rw [e1] at k
    refine k _ I4 ?_
    have g0 : GrX (Md kp kl kb (b :: b2 :: bs0)) h h3 := (GrX.of (Gr.snoc _ _)).trans (g3.weak fun _ q => q ▸ Md.s (.head _))
    exact Fw.of (g0.set (.inl (Md.b ..))) fun k _ q => Md.pop q

theorem close1_cons {six : T} {s : List (List T)} (h : 2 ≤ s.length) : ∃ a c tss, s = a :: c :: tss ∧ close1 six s = (c ++ [.l (a ++ [six])]) :: tss := by
  match s, h with
  | a :: c :: tss, _ => exact ⟨a, c, tss, rfl, rfl⟩
theorem close_loop {t : BV} {w : ST} {l : Loc} {m col : Nat} (ht : ∀ (h : List O) (bs : List Nat) (D' : DS) (P : Bool → List O → Prop), DI h kp kl kb bs D' → bs.length ≤ 1002 → D'.leads = D.leads → P (decide (m < bs.length)) h → t l h P)
    (hw : ∀ (h : List O) (D' : DS) (b b2 : Nat) (bs0 : List Nat) (a c : List T) (tss : List (List T)) (Q : Out → Loc → List O → Prop), DI h kp kl kb (b :: b2 :: bs0) D' → D'.spine = a :: c :: tss → (∀ ts ∈ D'.spine, ts.length ≤ 2 ^ 19) → bs0.length ≤ 1000 →
      (∀ h', DI h' kp kl kb (b2 :: bs0) { D' with spine := close1 (leafT 6 (rowOf D'.text) col) D'.spine } → Fw (Md kp kl kb (b :: b2 :: bs0)) (Md kp kl kb (b2 :: bs0)) h h' → Q .next l h') → w l h Q) (hm : 1 ≤ m) :
    ∀ (n : Nat) (h : List O) (bs : List Nat) (sp : List (List T)), DI h kp kl kb bs { D with spine := sp } → sp.length = m + n → sp.length ≤ 1000 → (∀ ts ∈ sp, ts.length + 2 * n ≤ 2 ^ 19) →
      (∀ h' bs', DI h' kp kl kb bs' { D with spine := closeN (leafT 6 (rowOf D.text) col) n sp } → Fw (Md kp kl kb bs) (Md kp kl kb bs') h h' → bs'.length = m → Q .next l h') → whileN t w (n + 1) l h Q := by
  intro n
  induction n with
  | zero =>
    intro h bs sp I hl h1 hz k
    have hb : bs.length = sp.length := I.ch.len
    refine ht h bs _ _ I (by lia) rfl ?_
    rw [decide_eq_false (by lia)]
    exact k h bs I Fw.refl (by lia)
  | succ n ih =>
    intro h bs sp I hl h1 hz k
    have hb : bs.length = sp.length := I.ch.len
    refine ht h bs _ _ I (by lia) rfl ?_
    rw [decide_eq_true (by lia : m < bs.length)]
    obtain ⟨a, c, tss, e, e1⟩ := close1_cons (six := leafT 6 (rowOf D.text) col) (s := sp) (by lia)
    obtain ⟨b, b2, bs0, rfl⟩ : ∃ b b2 bs0, bs = b :: b2 :: bs0 := by
      match bs, (by lia : 2 ≤ bs.length) with
      | b :: b2 :: bs0, _ => exact ⟨b, b2, bs0, rfl⟩
    simp only [List.length_cons] at hb
    refine hw h _ b b2 bs0 a c tss _ I e (fun ts ht => by have := hz ts ht; lia) (by lia) fun h' I' f' => ?_
    refine ih h' (b2 :: bs0) _ I' ?_ ?_ ?_ fun h2 bs2 I2 f2 l2 => ?_
    · rw [show (close1 _ _ : List (List T)) = _ from e1]
      rw [e] at hl
      simp only [List.length_cons] at hl ⊢
      lia
    · rw [show (close1 _ _ : List (List T)) = _ from e1]
      rw [e] at h1
      simp only [List.length_cons] at h1 ⊢
      lia
    · rw [show (close1 _ _ : List (List T)) = _ from e1]
      intro ts ht
      rcases List.mem_cons.mp ht with rfl | ht
      · have := hz c (by rw [e]; simp)
        simp only [List.length_append, List.length_cons, List.length_nil]
        lia
      · have := hz ts (by rw [e]; simp [ht])
        lia
    · exact k h2 bs2 I2 (f'.trans f2) l2
end
end Mine
end

noncomputable section -- L3w
open PySem PySem.W PySem.Calls PyProof.Rows
set_option maxRecDepth 100000
set_option autoImplicit false
namespace Mine

section
variable {h h' : List O} {kp kl kb ko : Nat} {bs : List Nat} {D : DS} {Q : Out → Loc → List O → Prop} {x lev : Nat}

theorem closeN_len (six : T) : ∀ (n : Nat) (s : List (List T)), n + 1 ≤ s.length → (closeN six n s).length = s.length - n
  | 0, s, _ => rfl
  | n + 1, s, h => by
    obtain ⟨a, c, tss, e, e1⟩ := close1_cons (six := six) (s := s) (by lia)
    rw [closeN, closeN_len six n, e1, e]
    · simp
    · rw [e1]; rw [e] at h; simp only [List.length_cons] at h ⊢; lia
theorem d5_ok (I : DI h kp kl kb bs D) (zl : D.leads.length ≤ 200) (zn : 1 ≤ D.leads.length) (zs : D.leads.length ≤ D.spine.length) (zs2 : D.spine.length ≤ 1000) (zt : ∀ ts ∈ D.spine, ts.length ≤ 2 ^ 18) {lead : List Nat} (hlead : lead.length ≤ 2 ^ 19) {l : Loc} (h2 : l[2]? = some (some (.ref kp))) (h3 : l[3]? = some (some (.ref kl))) (h4 : l[4]? = some (some (.ref kb))) (h10 : l[10]? = some (some (.str lead)))
    (k : ∀ h' bs', DI h' kp kl kb bs' (closeD lead D) → Fw (Md kp kl kb bs) (Md kp kl kb bs') h h' → Q .next l h') : sWhile wDraw_t4 wDraw_b3 l h Q := by
  refine ⟨D.spine.length - D.leads.length + 1, ?_⟩
  refine close_loop (D := D) (m := D.leads.length) (col := lead.length) ?_ ?_ zn (D.spine.length - D.leads.length) h bs D.spine I (by lia) zs2 (fun ts ht => by have := zt ts ht; lia) fun h' bs' I' f' _ => ?_
  · intro h bs D' P I hb hD hP
    obtain ⟨ls, e, L⟩ := I.ld
    have ll := L.length
    rw [hD] at ll
    refine ⟨_, h4, _, ⟨.inl I.bl, by simp; lia⟩, _, h3, _, ⟨.inl e, by lia⟩, ?_⟩
    have e0 : ((bs.reverse.map V.ref).length : Int) = (bs.length : Int) := by simp
    show P (decide ((ls.length : Int) < ((bs.reverse.map V.ref).length : Int))) h
    rw [e0, ll]
    have : decide ((D.leads.length : Int) < (bs.length : Int)) = decide (D.leads.length < bs.length) := by
      by_cases q : D.leads.length < bs.length
      · rw [decide_eq_true q, decide_eq_true (by lia)]
      · rw [decide_eq_false q, decide_eq_false (by lia)]
    rw [this]
    exact hP
  · intro h D' b b2 bs0 a c tss Q I hD hz hb k
    exact close_turn (w := wDraw_b3) rfl (fun h P hP => ⟨_, h10, by lia, hP⟩) h2 h4 I hD hz hb k
  · exact k h' bs' I' f'
theorem d5e_ok (I : DI h kp kl kb bs D) (zn : 1 ≤ D.spine.length) (zs2 : D.spine.length ≤ 1000) (zt : ∀ ts ∈ D.spine, ts.length ≤ 2 ^ 18) {l : Loc} (h2 : l[2]? = some (some (.ref kp))) (h4 : l[4]? = some (some (.ref kb)))
    (k : ∀ h' bs', DI h' kp kl kb bs' { D with spine := closeN (leafT 6 (rowOf D.text) 0) (D.spine.length - 1) D.spine } → bs'.length = 1 → Q .next l h') : sWhile wDraw_t1 wDraw_b0 l h Q := by
  refine ⟨D.spine.length - 1 + 1, ?_⟩
  refine close_loop (D := D) (m := 1) (col := 0) ?_ ?_ (Nat.le_refl _) (D.spine.length - 1) h bs D.spine I (by lia) zs2 (fun ts ht => by have := zt ts ht; lia) fun h' bs' I' f' l' => ?_
  · intro h bs D' P I hb hD hP
    refine ⟨_, h4, _, ⟨.inl I.bl, by simp; lia⟩, ?_⟩
    have e0 : ((bs.reverse.map V.ref).length : Int) = (bs.length : Int) := by simp
    show P (decide ((1 : Int) < ((bs.reverse.map V.ref).length : Int))) h
    rw [e0]
    have : decide ((1 : Int) < (bs.length : Int)) = decide (1 < bs.length) := by
      by_cases q : 1 < bs.length
      · rw [decide_eq_true q, decide_eq_true (by lia)]
      · rw [decide_eq_false q, decide_eq_false (by lia)]
    rw [this]
    exact hP
  · intro h D' b b2 bs0 a c tss Q I hD hz hb k
    exact close_turn (w := wDraw_b0) (col := 0) (ec := eInt 0) rfl (fun h P hP => hP) h2 h4 I hD hz hb k
  · exact k h' bs' I' l'
theorem d6_ok (I : DI h kp kl kb bs D) {lead : List Nat} (hn : 10 ∉ lead) (hl : D.text.length + lead.length ≤ 2 ^ 20) {l : Loc} (h2 : l[2]? = some (some (.ref kp))) (h10 : l[10]? = some (some (.str lead)))
    (k : ∀ h', DI h' kp kl kb bs { D with text := D.text ++ lead } → Fw (Md kp kl kb bs) (Md kp kl kb bs) h h' → Q .next l h') : d6 l h Q := by
  unfold d6
  refine ⟨_, h2, _, h10, ?_⟩
  refine d_write I (fun q => hn (List.dropLast_subset _ q)) hl fun h1 I1 g1 _ => ?_
  exact k h1 I1 (Fw.same (g1.weak fun _ q => q ▸ Md.p ..))

/-! the words -/
inductive WdR (h : List O) (M : Nat → Prop) : List V → List (Int × List Nat) → Prop
  | nil : WdR h M [] []
  | cons {a : Nat} {w : Int × List Nat} {vs : List V} {ws : List (Int × List Nat)} : ¬ M a → h[a]? = some (O.list [.int w.1, .str w.2]) → WdR h M vs ws → WdR h M (.ref a :: vs) (w :: ws)
theorem WdR.step {h h' : List O} {M M' : Nat → Prop} (f : Fw M M' h h') : ∀ {vs : List V} {ws : List (Int × List Nat)}, WdR h M vs ws → WdR h' M' vs ws
  | _, _, .nil => .nil
  | _, _, .cons n e r => .cons (f _ _ n e).2 (f _ _ n e).1 (r.step f)
theorem WdR.length {M : Nat → Prop} : ∀ {vs : List V} {ws : List (Int × List Nat)}, WdR h M vs ws → vs.length = ws.length
  | _, _, .nil => rfl
  | _, _, .cons _ _ r => by simp [r.length]

theorem d7abc_ok (hk : h[ko]? = some (O.list (opsL.map .str))) {a0 a2 a3 a4 a6 a7 a8 a9 a10 a11 a12 a13 a14 a15 a16 a17 a18 : Option V} {R : ST}
    (k : ∀ h' a b, Gr h h' → h.length ≤ a → h.length ≤ b → h'[a]? = some (O.list [.int (14 + (x / 160 % 41 : Nat)), .str (opOf (x / 160 % 41))]) → h'[b]? = some (O.list [.int 4, .str [10]]) →
      R [a0, some (.ref ko), a2, a3, a4, some (.int x), a6, a7, a8, a9, a10, some (.ref a), some (.ref b), some (.int (x / 40 % 4 : Nat)), a14, a15, a16, a17, a18] h' Q) :
    sSeq d7a (sSeq d7b (sSeq d7c R)) [a0, some (.ref ko), a2, a3, a4, some (.int x), a6, a7, a8, a9, a10, a11, a12, a13, a14, a15, a16, a17, a18] h Q := by
  have e5 : ((x : Int).fdiv 160).fmod 41 = ((x / 160 % 41 : Nat) : Int) := by
    rw [show (x : Int).fdiv 160 = ((x / 160 : Nat) : Int) from e_fdiv x 160]
    exact e_fmod _ 41
  have e6 : ((x : Int).fdiv 40).fmod 4 = ((x / 40 % 4 : Nat) : Int) := by
    rw [show (x : Int).fdiv 40 = ((x / 40 : Nat) : Int) from e_fdiv x 40]
    exact e_fmod _ 4
  have hlt : x / 160 % 41 < 41 := Nat.mod_lt _ (by decide)
  unfold d7a
  refine ⟨_, rfl, ⟨by decide, by decide⟩, by decide, ?_⟩
  refine ⟨_, rfl, _, rfl, ⟨by decide, by decide⟩, by decide, ?_⟩
  rw [e5]
  refine ⟨_, V.str (opOf (x / 160 % 41)), ⟨.inl hk, by unfold small; lia, ?_⟩, by simp, ?_⟩
  · unfold at?
    rw [if_pos (by lia), Int.toNat_natCast, List.getElem?_map]
    unfold opOf List.getD
    rw [List.getElem?_eq_getElem (by rw [ops_len]; exact hlt)]
    rfl
  · show sSeq d7b (sSeq d7c R) [a0, some (.ref ko), a2, a3, a4, some (.int x), a6, a7, a8, a9, a10, some (.ref h.length), a12, a13, a14, a15, a16, a17, a18] _ Q
    unfold d7b
    refine ⟨by simp, ?_⟩
    unfold d7c
    refine ⟨_, rfl, ⟨by decide, by decide⟩, by decide, ?_⟩
    rw [e6]
    exact k _ h.length _ ((Gr.snoc _ _).trans (Gr.snoc _ _)) (Nat.le_refl _) (by simp) (snoc_old (snoc_get _ _)) (snoc_get _ _)

theorem d7d_ok {M : Nat → Prop} (hM : ∀ k, M k → k < h.length) {a0 a1 a2 a3 a4 a5 a6 a7 a8 a9 a10 a14 a15 a16 a17 a18 : Option V} {f n ka kb' : Nat} (hf : f < 4) (ma : ¬ M ka) (mb : ¬ M kb') (ha : h[ka]? = some (O.list [.int (14 + n), .str (opOf n)])) (hb : h[kb']? = some (O.list [.int 4, .str [10]]))
    (k : ∀ h' kw vs, Gr h h' → h.length ≤ kw → h'[kw]? = some (O.list vs) → WdR h' M vs (wordsF f n) → Q .next [a0, a1, a2, a3, a4, a5, a6, a7, a8, a9, a10, some (.ref ka), some (.ref kb'), some (.int f), some (.ref kw), a15, a16, a17, a18] h') :
    d7d [a0, a1, a2, a3, a4, a5, a6, a7, a8, a9, a10, some (.ref ka), some (.ref kb'), some (.int f), a14, a15, a16, a17, a18] h Q := by
  have hsh := ops_short n
  have hf' : f = 0 ∨ f = 1 ∨ f = 2 ∨ f = 3 := by lia
  have fr : ∀ {t : Nat}, ¬ M (h.length + t) := fun q => absurd (hM _ q) (by lia)
  have fr0 : ¬ M h.length := fun q => absurd (hM _ q) (by lia)
  have frG : ∀ {g : List O}, Gr h g → ¬ M g.length := fun gr q => absurd (hM _ q) (by have := gr.len; lia)
  unfold d7d
  rcases hf' with rfl | rfl | rfl | rfl
  · refine ⟨_, rfl, by simp, ?_⟩
    refine ⟨_, rfl, by simp, _, rfl, by simp, ?_⟩
    have g1 := Gr.snoc h (O.list [.int 1, .str [97]])
    have g2 := g1.trans (Gr.snoc _ (O.list [.int 1, .str [98]]))
    have g3 := g2.trans (Gr.snoc _ (O.list [.ref h.length, .ref ka, .ref (h ++ [O.list [.int 1, .str [97]]]).length, .ref kb']))
    refine k _ _ _ g3 g2.len (snoc_get _ _) ?_
    refine .cons fr0 (snoc_old (snoc_old (snoc_get _ _))) (.cons ma (g3.get ha) (.cons (frG g1) (snoc_old (snoc_get _ _)) (.cons mb (g3.get hb) .nil)))
  · refine ⟨_, rfl, ?_⟩
    refine ⟨_, rfl, by simp, by simp, _, rfl, by simp, by simp, by simp, by simp, _, rfl, by simp, ?_⟩
    have g1 := Gr.snoc h (O.list [.int 1, .str [97]])
    have g2 := g1.trans (Gr.snoc _ (O.list [.int 7, .str [40]]))
    have g3 := g2.trans (Gr.snoc _ (O.list [.int 63, .str [10]]))
    have g4 := g3.trans (Gr.snoc _ (O.list [.int (-1), .str [32, 9]]))
    have g5 := g4.trans (Gr.snoc _ (O.list [.int 1, .str [98]]))
    have g6 := g5.trans (Gr.snoc _ (O.list [.int 8, .str [41]]))
    refine k _ _ _ (g6.trans (Gr.snoc _ _)) g6.len (snoc_get _ _) ?_
    have s2 := Gr.snoc (h ++ [O.list [.int 1, .str [97]]]) (O.list [.int 7, .str [40]])
    refine .cons fr0 (snoc_old (snoc_old (snoc_old (snoc_old (snoc_old (snoc_old (snoc_get _ _))))))) (.cons (frG g1) (snoc_old (snoc_old (snoc_old (snoc_old (snoc_old (snoc_get _ _)))))) (.cons ma ((g6.trans (Gr.snoc _ _)).get ha)
      (.cons (frG g2) (snoc_old (snoc_old (snoc_old (snoc_old (snoc_get _ _))))) (.cons (frG g3) (snoc_old (snoc_old (snoc_old (snoc_get _ _)))) (.cons (frG g4) (snoc_old (snoc_old (snoc_get _ _))) (.cons (frG g5) (snoc_old (snoc_get _ _)) (.cons mb ((g6.trans (Gr.snoc _ _)).get hb) .nil)))))))
  · refine ⟨_, rfl, ?_⟩
    refine ⟨_, rfl, ?_⟩
    refine ⟨_, rfl, ?_⟩
    have hat : at? [V.int (14 + n), V.str (opOf n)] 1 = some (.str (opOf n)) := rfl
    refine ⟨_, rfl, _, _, ⟨.inl ha, sm1, hat⟩, ?_⟩
    refine ⟨by simp only [List.length_cons, List.length_nil]; lia, ?_⟩
    refine ⟨by simp only [List.length_append, List.length_cons, List.length_nil]; lia, ?_⟩
    refine ⟨by simp, _, rfl, by simp, _, rfl, by simp, ?_⟩
    have g1 := Gr.snoc h (O.list [.int 3, .str ([34, 92, 34, 40] ++ opOf n ++ [34])])
    have g2 := g1.trans (Gr.snoc _ (O.list [.int 1, .str [97]]))
    refine k _ _ _ (g2.trans (Gr.snoc _ _)) g2.len (snoc_get _ _) ?_
    refine .cons fr0 (snoc_old (snoc_old (snoc_get _ _))) (.cons ma ((g2.trans (Gr.snoc _ _)).get ha) (.cons (frG g1) (snoc_old (snoc_get _ _)) (.cons mb ((g2.trans (Gr.snoc _ _)).get hb) .nil)))
  · refine ⟨_, rfl, ?_⟩
    refine ⟨_, rfl, ?_⟩
    refine ⟨_, rfl, ?_⟩
    refine ⟨by simp, _, rfl, by simp, by simp, by simp, _, rfl, by simp, ?_⟩
    have g1 := Gr.snoc h (O.list [.int 1, .str [97]])
    have g2 := g1.trans (Gr.snoc _ (O.list [.int (-1), .str [92, 10]]))
    have g3 := g2.trans (Gr.snoc _ (O.list [.int (-1), .str [9]]))
    have g4 := g3.trans (Gr.snoc _ (O.list [.int 1, .str [98]]))
    refine k _ _ _ (g4.trans (Gr.snoc _ _)) g4.len (snoc_get _ _) ?_
    refine .cons fr0 (snoc_old (snoc_old (snoc_old (snoc_old (snoc_get _ _))))) (.cons ma ((g4.trans (Gr.snoc _ _)).get ha) (.cons (frG g1) (snoc_old (snoc_old (snoc_old (snoc_get _ _)))) (.cons (frG g2) (snoc_old (snoc_old (snoc_get _ _))) (.cons (frG g3) (snoc_old (snoc_get _ _)) (.cons mb ((g4.trans (Gr.snoc _ _)).get hb) .nil)))))
end
end Mine
end

noncomputable section -- L3x
open PySem PySem.W PySem.Calls PyProof.Rows
set_option maxRecDepth 100000
set_option autoImplicit false
namespace Mine

noncomputable def pageO (text : List Nat) : O := O.list [.str text, .int (rowOf text), .int (colOf text)]
theorem p_write {h : List O} {kp : Nat} {text : List Nat} (hp : h[kp]? = some (pageO text)) {n : Int} {sg : List Nat} (hs : 10 ∉ sg.dropLast) (hl : text.length + sg.length ≤ 2 ^ 20) {P : V → List O → Prop}
    (k : ∀ h', h'[kp]? = some (pageO (text ++ sg)) → (∀ (k : Nat) (o : O), k ≠ kp → h[k]? = some o → h'[k]? = some o) → h'[h.length]? = some (O.list [.int n, .int (rowOf text), .int (colOf text)]) → h.length < h'.length → P (.ref h.length) h') :
    fWrite [.ref kp, .int n, .str sg] h P := by
  refine w_write hp hl (k _ ?_ ?_ ?_ ?_)
  · rw [set_self (snoc_old hp)]
    unfold pageO
    rcases sign_end hs with ⟨e, a, rfl, ha⟩ | ⟨e, ha⟩
    · rw [if_pos e, if_pos e, ← List.append_assoc, col_nl, row_append, row_append, row_no ha]
      rfl
    · rw [if_neg e, if_neg e, col_no ha, row_append, row_no ha]
      rfl
  · intro j o hj e
    rw [set_other (Ne.symm hj)]
    exact snoc_old e
  · have ne : kp ≠ h.length := Nat.ne_of_lt (get_lt hp)
    rw [set_other ne]; exact snoc_get _ _
  · simp

section
variable {h₀ : List O} {kp kl kb : Nat} {bs : List Nat} {D₀ : DS} {Q : Out → Loc → List O → Prop}
noncomputable def Ms (kp kl kb ks : Nat) (bs : List Nat) (k : Nat) : Prop := Md kp kl kb bs k ∨ k = ks
theorem b2_loop (I₀ : DI h₀ kp kl kb bs D₀) {kw ks : Nat} (ne : kw ≠ ks) (mw : kw ≠ kp) (ms : h₀.length ≤ ks) {a0 a1 a3 a4 a5 a6 a7 a8 a9 a10 a11 a12 a13 : Option V} :
    ∀ (rest : List (Int × List Nat)) (h : List O) (text : List Nat) (vpre vrest svs : List V) (sts : List T) (a16 a17 a18 : Option V), h[kp]? = some (pageO text) → (∀ (k : Nat) (o : O), k ≠ kp → h₀[k]? = some o → h[k]? = some o) → h[kw]? = some (O.list (vpre ++ vrest)) → WdR h (Ms kp kl kb ks bs) vrest rest → h[ks]? = some (O.list svs) → TVs h (Ms kp kl kb ks bs) svs sts →
      (∀ w ∈ rest, 10 ∉ w.2.dropLast) → text.length + (signsOf rest).length ≤ 2 ^ 20 → svs.length + rest.length ≤ 2 ^ 19 →
      (∀ h' svs' a16 a17 a18, h'[kp]? = some (pageO (text ++ signsOf rest)) → (∀ (k : Nat) (o : O), k ≠ kp → h₀[k]? = some o → h'[k]? = some o) → h'[ks]? = some (O.list svs') → TVs h' (Ms kp kl kb ks bs) svs' (sts ++ leavesOf text rest) →
        Q .next [a0, a1, some (.ref kp), a3, a4, a5, a6, a7, a8, a9, a10, a11, a12, a13, some (.ref kw), some (.ref ks), a16, a17, a18] h') →
      forN (nxL kw) (tPair 16 17) wDraw_b2 (rest.length + 1) vpre.length [a0, a1, some (.ref kp), a3, a4, a5, a6, a7, a8, a9, a10, a11, a12, a13, some (.ref kw), some (.ref ks), a16, a17, a18] h Q := by
  have kpl : kp < h₀.length := get_lt I₀.page
  intro rest
  induction rest with
  | nil =>
    intro h text vpre vrest svs sts a16 a17 a18 hp hk ew W es ts _ _ _ k
    cases W
    refine ⟨none, ⟨_, ew, by simp⟩, ?_⟩
    refine k h svs _ _ _ ?_ hk es ?_
    · have : text ++ signsOf [] = text := by simp [signsOf]
      rw [this]; exact hp
    · simpa [leavesOf] using ts
  | cons w rest ih =>
    intro h text vpre vrest svs sts a16 a17 a18 hp hk ew W es ts hw hl hz k
    obtain ⟨n, sg⟩ := w
    cases W with
    | @cons a _ vs _ ma ea W =>
      have e1 : signsOf ((n, sg) :: rest) = sg ++ signsOf rest := by simp [signsOf]
      rw [e1] at hl k
      rw [List.length_append] at hl
      rw [List.length_cons] at hz
      have hlw : text.length + sg.length ≤ 2 ^ 20 := by lia
      refine ⟨some (.ref a), ⟨_, ew, by simp⟩, ?_⟩
      refine ⟨_, _, .inr ea, ?_⟩
      show wDraw_b2 [a0, a1, some (.ref kp), a3, a4, a5, a6, a7, a8, a9, a10, a11, a12, a13, some (.ref kw), some (.ref ks), some (.int n), some (.str sg), a18] h _
      unfold wDraw_b2
      refine ⟨_, rfl, _, rfl, _, rfl, ?_⟩
      have hsk : ks < h.length := get_lt es
      have hsp : ks ≠ kp := by lia
      have hwd : ∀ k, Ms kp kl kb ks bs k → k < h.length := fun k q => by
        rcases q with q | q
        · have := I₀.lt k q; lia
        · lia
      refine p_write hp (hw _ (.head _)) hlw fun h1 hp1 g1 t1 l1 => ?_
      have t1' : TV h1 (Ms kp kl kb ks bs) (.ref h.length) (leafT n (rowOf text) (colOf text)) := .l (fun q => absurd (hwd _ q) (Nat.lt_irrefl _)) t1 (.cons (.i _) (.cons (.i _) (.cons (.i _) .nil)))
      have f1 : Fw (Ms kp kl kb ks bs) (Ms kp kl kb ks bs) h h1 := fun k o n e => ⟨g1 k o (fun q => n (.inl (q ▸ Md.p ..))) e, n⟩
      have es1 : h1[ks]? = some (O.list svs) := g1 _ _ hsp es
      have ew1 : h1[kw]? = some (O.list (vpre ++ .ref a :: vs)) := g1 _ _ mw ew
      have hk1 : ∀ (k : Nat) (o : O), k ≠ kp → h₀[k]? = some o → h1[k]? = some o := fun k o n e => g1 k o n (hk k o n e)
      have ts1 : TVs h1 (Ms kp kl kb ks bs) svs sts := ts.step (fun k o n e => (f1 k o n e).1) fun _ _ q => q
      refine ⟨_, rfl, ?_⟩
      show (match decide (0 < n) with | true => _ | false => _)
      have ep : vpre ++ V.ref a :: vs = (vpre ++ [V.ref a]) ++ vs := by simp
      have el : vpre.length + 1 = (vpre ++ [V.ref a]).length := by simp
      by_cases hn : 0 < n
      · rw [decide_eq_true hn]
        have e2 : leavesOf text ((n, sg) :: rest) = leafT n (rowOf text) (colOf text) :: leavesOf (text ++ sg) rest := by rw [leavesOf, if_pos hn]
        rw [e2] at k
        refine ⟨_, rfl, ⟨_, _, rfl, es1⟩, ?_⟩
        refine ⟨_, rfl, ?_⟩
        refine ⟨svs, ⟨es1, by lia⟩, ?_⟩
        have keep : ∀ (k : Nat) (o : O), k ≠ ks → h1[k]? = some o → (h1.set ks (O.list (svs ++ [.ref h.length])))[k]? = some o := fun k o hk e => by rw [set_other (Ne.symm hk)]; exact e
        have f2 : Fw (Ms kp kl kb ks bs) (Ms kp kl kb ks bs) h1 (h1.set ks (O.list (svs ++ [.ref h.length]))) := Fw.same ((GrX.refl h1).set (.inl (.inr rfl)))
        show forN (nxL kw) (tPair 16 17) wDraw_b2 (rest.length + 1) (vpre.length + 1) [a0, a1, some (.ref kp), a3, a4, a5, a6, a7, a8, a9, a10, a11, a12, a13, some (.ref kw), some (.ref ks), some (.int n), some (.str sg), some (.ref h.length)] _ Q
        rw [el]
        refine ih _ _ (vpre ++ [V.ref a]) vs (svs ++ [.ref h.length]) (sts ++ [leafT n (rowOf text) (colOf text)]) _ _ _ (keep _ _ (Ne.symm hsp) hp1) (fun k o n e => keep k o (fun q => by have := get_lt e; lia) (hk1 k o n e)) ?_ (W.step (f1.trans f2)) (set_self es1) ?_ (fun w hw' => hw w (.tail _ hw')) ?_ ?_ fun h3 svs3 b16 b17 b18 hp3 hk3 es3 ts3 => ?_
        · rw [← ep]; exact keep _ _ ne ew1
        · exact (ts1.step (fun k o n e => (f2 k o n e).1) fun _ _ q => q).append (.one (t1'.step (fun k o n e => (f2 k o n e).1) fun _ _ q => q))
        · simp only [List.length_append]; lia
        · simp only [List.length_append, List.length_cons, List.length_nil]; lia
        · refine k h3 svs3 _ _ _ ?_ hk3 es3 ?_
          · rw [← List.append_assoc]; exact hp3
          · simpa using ts3
      · rw [decide_eq_false hn]
        have e2 : leavesOf text ((n, sg) :: rest) = leavesOf (text ++ sg) rest := by rw [leavesOf, if_neg hn]
        rw [e2] at k
        show forN (nxL kw) (tPair 16 17) wDraw_b2 (rest.length + 1) (vpre.length + 1) [a0, a1, some (.ref kp), a3, a4, a5, a6, a7, a8, a9, a10, a11, a12, a13, some (.ref kw), some (.ref ks), some (.int n), some (.str sg), some (.ref h.length)] _ Q
        rw [el]
        refine ih _ _ (vpre ++ [V.ref a]) vs svs sts _ _ _ hp1 hk1 ?_ (W.step f1) es1 ts1 (fun w hw' => hw w (.tail _ hw')) ?_ ?_ fun h3 svs3 b16 b17 b18 hp3 hk3 es3 ts3 => ?_
        · rw [← ep]; exact ew1
        · simp only [List.length_append]; lia
        · lia
        · refine k h3 svs3 _ _ _ ?_ hk3 es3 ts3
          rw [← List.append_assoc]; exact hp3
theorem d8_ok {h : List O} {D : DS} (I : DI h kp kl kb bs D) (Z : D.spine ≠ []) (hz : ∀ ts ∈ D.spine, ts.length ≤ 2 ^ 20) {kw : Nat} {vs : List V} {ws : List (Int × List Nat)} (ew : h[kw]? = some (O.list vs)) (mw : ¬ Md kp kl kb bs kw) (W : WdR h (Md kp kl kb bs) vs ws) (hws : ∀ w ∈ ws, 10 ∉ w.2.dropLast) (hl : D.text.length + (signsOf ws).length ≤ 2 ^ 20) (hn : ws.length ≤ 1000)
    {a0 a1 a3 a5 a6 a7 a8 a9 a10 a11 a12 a13 a15 a16 a17 a18 : Option V}
    (k : ∀ h' a15 a16 a17 a18, DI h' kp kl kb bs (wordsD ws D) → Fw (Md kp kl kb bs) (Md kp kl kb bs) h h' → Q .next [a0, a1, some (.ref kp), a3, some (.ref kb), a5, a6, a7, a8, a9, a10, a11, a12, a13, some (.ref kw), a15, a16, a17, a18] h') :
    sSeq d8a (sSeq d8b (sSeq d8c sPass)) [a0, a1, some (.ref kp), a3, some (.ref kb), a5, a6, a7, a8, a9, a10, a11, a12, a13, some (.ref kw), a15, a16, a17, a18] h Q := by
  obtain ⟨b, bs', hb⟩ := I.bs_ne Z
  unfold d8a
  refine ⟨by simp, ?_⟩
  show sSeq d8b (sSeq d8c sPass) [a0, a1, some (.ref kp), a3, some (.ref kb), a5, a6, a7, a8, a9, a10, a11, a12, a13, some (.ref kw), some (.ref h.length), a16, a17, a18] (h ++ [O.list [.int 256]]) Q
  unfold d8b
  have ew1 : (h ++ [O.list [V.int 256]])[kw]? = some (O.list vs) := snoc_old ew
  refine ⟨_, rfl, ⟨_, ew1⟩, ws.length + 1, ?_⟩
  have ne : kw ≠ h.length := by have := get_lt ew; lia
  have W1 : WdR (h ++ [O.list [V.int 256]]) (Ms kp kl kb h.length bs) vs ws := W.step fun k o n e => ⟨snoc_old e, fun q => by
    rcases q with q | q
    · exact n q
    · have := get_lt e; lia⟩
  refine b2_loop I ne (fun q => mw (q ▸ Md.p ..)) (Nat.le_refl _) ws (h ++ [O.list [V.int 256]]) D.text [] vs [.int 256] [.i 256] a16 a17 a18 (snoc_old I.page) (fun k o _ e => snoc_old e) ew1 W1 (snoc_get _ _) (.cons (.i _) .nil) hws hl (by simp; lia) fun h2 svs b16 b17 b18 hp2 hk2 es2 ts2 => ?_
  show sSeq d8c sPass [a0, a1, some (.ref kp), a3, some (.ref kb), a5, a6, a7, a8, a9, a10, a11, a12, a13, some (.ref kw), some (.ref h.length), b16, b17, b18] h2 Q
  have I2 := I.page_to hk2 hp2
  unfold d8c
  refine d_append I2 hb rfl ?_
  refine ⟨_, rfl, ?_⟩
  refine d_put I2 hb (t := .l ([T.i 256] ++ leavesOf D.text ws)) (.l (I.fresh (Nat.le_refl _)) es2 (ts2.step (fun _ _ _ e => e) fun _ _ q => .inl q)) hz fun h3 g3 I3 => ?_
  refine k h3 _ _ _ _ I3 fun k o n e => ⟨?_, n⟩
  exact g3.keep _ _ (fun q => n (q ▸ Md.s (by rw [hb]; exact .head _))) (hk2 k o (fun q => n (q ▸ Md.p ..)) e)
end
end Mine
end

noncomputable section -- L3y
open PySem PySem.W PySem.Calls PyProof.Rows
set_option maxRecDepth 100000
set_option autoImplicit false
namespace Mine

/-- how large a drawing of n numbers is -/
structure DB (n : Nat) (D : DS) : Prop where
  text : D.text.length ≤ 1000 * n
  spine : ∀ ts ∈ D.spine, ts.length ≤ 2 + 10 * n
  sp : D.spine.length = D.leads.length
  leads : D.leads.length ≤ n + 1
  ne : D.leads ≠ []
  runs : ∀ l ∈ D.leads, l.1.length ≤ 2 * n ∧ (∀ r ∈ l.1, r ≤ 3) ∧ l.2 ≤ 2 * n
theorem DB.zero : DB 0 draw0 := ⟨by decide, by simp [draw0], rfl, by decide, by decide, by simp [draw0]⟩
theorem push_bound {m : Nat} {t : T} {sp : List (List T)} (h : ∀ ts ∈ sp, ts.length ≤ m) : ∀ ts ∈ pushTop t sp, ts.length ≤ m + 1 := by
  intro ts ht
  cases sp with
  | nil => cases ht
  | cons a r =>
    rcases List.mem_cons.mp ht with rfl | ht
    · have := h a (.head _)
      simp only [List.length_append, List.length_cons, List.length_nil]
      lia
    · have := h ts (.tail _ ht)
      lia
theorem push_len (t : T) (sp : List (List T)) : (pushTop t sp).length = sp.length := by
  cases sp <;> rfl
theorem close_bound {m : Nat} {six : T} : ∀ (n : Nat) (sp : List (List T)), (∀ ts ∈ sp.take 1, ts.length ≤ m + 1) → (∀ ts ∈ sp.drop 1, ts.length ≤ m) → ∀ ts ∈ closeN six n sp, ts.length ≤ m + 1
  | 0, sp, h1, h2 => by
    intro ts ht
    have e := List.take_append_drop 1 sp
    rw [closeN, ← e] at ht
    rcases List.mem_append.mp ht with ht | ht
    · exact h1 ts ht
    · have := h2 ts ht; lia
  | n + 1, sp, h1, h2 => by
    rw [closeN]
    match sp, h1, h2 with
    | [], _, _ => exact close_bound n _ (by simp [close1]) (by simp [close1])
    | [a], h1, h2 => exact close_bound n _ h1 h2
    | a :: b :: r, h1, h2 =>
      refine close_bound n _ ?_ ?_
      · intro ts ht
        simp only [close1, List.take_succ_cons, List.take_zero, List.mem_singleton] at ht
        subst ht
        have := h2 b (by simp)
        simp only [List.length_append, List.length_cons, List.length_nil]
        lia
      · intro ts ht
        exact h2 ts (by simpa [close1] using .inr ht)
theorem closeN_ne (six : T) : ∀ (n : Nat) (sp : List (List T)), sp ≠ [] → closeN six n sp ≠ []
  | 0, _, h => h
  | n + 1, sp, h => by
    rw [closeN]
    refine closeN_ne six n _ ?_
    match sp, h with
    | [a], _ => simp [close1]
    | a :: b :: r, _ => simp [close1]

theorem words_ok : ∀ f < 4, ∀ k < 41, (wordsF f k).length ≤ 8 ∧ (signsOf (wordsF f k)).length ≤ 30 ∧ ∀ w ∈ wordsF f k, 10 ∉ w.2.dropLast := by decide +kernel

section
variable {D : DS} {n x lev : Nat}
theorem white_text (D : DS) (x : Nat) : (whiteD x D).text.length ≤ D.text.length + 3 := by
  unfold whiteD
  split
  · simp
  · lia
theorem white_spine (D : DS) (x m : Nat) (h : ∀ ts ∈ D.spine, ts.length ≤ m) : ∀ ts ∈ (whiteD x D).spine, ts.length ≤ m + 1 := by
  unfold whiteD
  split
  · exact push_bound h
  · intro ts ht; have := h ts ht; lia
theorem white_len (D : DS) (x : Nat) : (whiteD x D).spine.length = D.spine.length := by
  unfold whiteD
  split
  · exact push_len _ _
  · rfl
theorem white_leads (D : DS) (x : Nat) : (whiteD x D).leads = D.leads := by
  unfold whiteD
  split <;> rfl
theorem last_mem {ls : List (List Nat × Nat)} (h : ls ≠ []) : lastLead ls ∈ ls := by
  obtain ⟨a, b, rfl⟩ := last_of h
  rw [last_lead]; simp
theorem new_ok {n kind : Nat} {l : List Nat × Nat} (h : l.1.length ≤ 2 * n ∧ (∀ r ∈ l.1, r ≤ 3) ∧ l.2 ≤ 2 * n) : (newLead kind l).1.length ≤ 2 * (n + 1) ∧ (∀ r ∈ (newLead kind l).1, r ≤ 3) ∧ (newLead kind l).2 ≤ 2 * (n + 1) := by
  obtain ⟨h1, h2, h3⟩ := h
  unfold newLead
  split
  · refine ⟨by simp; lia, ?_, by simp; lia⟩
    intro r hr
    simp only [List.mem_append, List.mem_cons, List.not_mem_nil, or_false] at hr
    rcases hr with hr | rfl | rfl
    · exact h2 r hr
    · lia
    · lia
  · exact ⟨by simp; lia, h2, by simp; lia⟩

/-- sizes after the white row -/
structure DB1 (n : Nat) (D : DS) : Prop where
  text : D.text.length ≤ 1000 * n + 3
  spine : ∀ ts ∈ D.spine, ts.length ≤ 3 + 10 * n
  sp : D.spine.length = D.leads.length
  leads : D.leads.length ≤ n + 1
  ne : D.leads ≠ []
  runs : ∀ l ∈ D.leads, l.1.length ≤ 2 * n ∧ (∀ r ∈ l.1, r ≤ 3) ∧ l.2 ≤ 2 * n
theorem DB.white (B : DB n D) (x : Nat) : DB1 n (whiteD x D) := by
  refine ⟨?_, ?_, ?_, ?_, ?_, ?_⟩
  · have := white_text D x; have := B.text; lia
  · intro ts ht
    have := white_spine D x _ B.spine ts ht
    lia
  · rw [white_len, white_leads]; exact B.sp
  · rw [white_leads]; exact B.leads
  · rw [white_leads]; exact B.ne
  · rw [white_leads]; exact B.runs
structure DB2 (n : Nat) (D : DS) : Prop where
  text : D.text.length ≤ 1000 * n + 3
  spine : ∀ ts ∈ D.spine, ts.length ≤ 3 + 10 * n
  sp : D.spine.length = D.leads.length
  leads : D.leads.length ≤ n + 2
  ne : D.leads ≠ []
  runs : ∀ l ∈ D.leads, l.1.length ≤ 2 * (n + 1) ∧ (∀ r ∈ l.1, r ≤ 3) ∧ l.2 ≤ 2 * (n + 1)
theorem DB1.open (B : DB1 n D) (lev x : Nat) : DB2 n (openD lev x D) := by
  unfold openD
  have R : ∀ l ∈ D.leads, l.1.length ≤ 2 * (n + 1) ∧ (∀ r ∈ l.1, r ≤ 3) ∧ l.2 ≤ 2 * (n + 1) := fun l hl => by
    obtain ⟨a, b, c⟩ := B.runs l hl
    exact ⟨by lia, b, by lia⟩
  split
  · refine ⟨B.text, ?_, by simp [B.sp], by simp [B.leads], by simp, ?_⟩
    · intro ts ht
      rcases List.mem_cons.mp ht with rfl | ht
      · simp; lia
      · exact B.spine ts ht
    · intro l hl
      rcases List.mem_append.mp hl with hl | hl
      · exact R l hl
      · rw [List.mem_singleton.mp hl]
        exact new_ok (B.runs _ (last_mem B.ne))
  · exact ⟨B.text, B.spine, B.sp, by have := B.leads; lia, B.ne, R⟩
theorem DB2.z (B : DB2 n D) (hn : n ≤ 40) : DZ D := by
  have h1 := B.text
  refine ⟨by lia, fun ts ht => by have := B.spine ts ht; lia, by have := B.leads; lia, B.ne, fun l hl => ?_, fun q => ?_⟩
  · obtain ⟨a, b, c⟩ := B.runs l hl
    exact ⟨by lia, fun r hr => by have := b r hr; lia, by lia⟩
  · have := B.sp
    rw [q] at this
    exact B.ne (List.length_eq_zero_iff.mp this.symm)
theorem DB1.z (B : DB1 n D) (hn : n ≤ 40) : DZ D := by
  have h1 := B.text
  refine ⟨by lia, fun ts ht => by have := B.spine ts ht; lia, by have := B.leads; lia, B.ne, fun l hl => ?_, fun q => ?_⟩
  · obtain ⟨a, b, c⟩ := B.runs l hl
    exact ⟨by lia, fun r hr => by have := b r hr; lia, by lia⟩
  · have := B.sp
    rw [q] at this
    exact B.ne (List.length_eq_zero_iff.mp this.symm)
theorem DB.z (B : DB n D) (hn : n ≤ 40) : DZ D := DB1.z (n := n) ⟨by have := B.text; lia, fun ts ht => by have := B.spine ts ht; lia, B.sp, B.leads, B.ne, B.runs⟩ hn
theorem leadOf_len {l : List Nat × Nat} (h : l.1.length ≤ 2 * (n + 1) ∧ (∀ r ∈ l.1, r ≤ 3) ∧ l.2 ≤ 2 * (n + 1)) (hn : n ≤ 40) (x : Nat) : (leadOf x l).length ≤ 40 * (n + 1) := by
  obtain ⟨h1, h2, h3⟩ := h
  unfold leadOf
  have := lead_len (if x / 20 % 2 = 1 then l.1.reverse else l.1, l.2) (fun r hr => by
    have : r ∈ l.1 := by
      split at hr
      · simpa using hr
      · exact hr
    have := h2 r this; lia)
  have e : (if x / 20 % 2 = 1 then l.1.reverse else l.1).length = l.1.length := by split <;> simp
  simp only [e] at this
  lia
theorem closeD_spine (D : DS) (lead : List Nat) (m : Nat) (h : ∀ ts ∈ D.spine, ts.length ≤ m) : ∀ ts ∈ (closeD lead D).spine, ts.length ≤ m + 1 := by
  unfold closeD
  refine close_bound _ _ (fun ts ht => ?_) (fun ts ht => h ts (List.mem_of_mem_drop ht))
  have := h ts (List.mem_of_mem_take ht); lia
theorem drawStep_eq {D D2 : DS} {x lev : Nat} {lead : List Nat} (h1 : x % ((whiteD x D).leads.length + 1) = lev) (h2 : openD lev x (whiteD x D) = D2) (h3 : leadOf x (lastLead (cutD lev D2).leads) = lead) :
    drawStep D x = wordsD (wordsF (x / 40 % 4) (x / 160 % 41)) { closeD lead (cutD lev D2) with text := (closeD lead (cutD lev D2)).text ++ lead } := by
  subst h1 h2 h3; rfl
theorem step_bound (B : DB n D) (hn : n ≤ 20) (x : Nat) : DB (n + 1) (drawStep D x) := by
  have B1 := B.white x
  have B2 := B1.open (x % ((whiteD x D).leads.length + 1)) x
  obtain ⟨lev, hlev⟩ : ∃ lev, x % ((whiteD x D).leads.length + 1) = lev := ⟨_, rfl⟩
  rw [hlev] at B2
  obtain ⟨D2, hD2⟩ : ∃ D2, openD lev x (whiteD x D) = D2 := ⟨_, rfl⟩
  rw [hD2] at B2
  obtain ⟨lead, hL⟩ : ∃ lead, leadOf x (lastLead (cutD lev D2).leads) = lead := ⟨_, rfl⟩
  rw [drawStep_eq hlev hD2 hL]
  obtain ⟨zr, zn⟩ := (B2.z (by lia)).take lev
  have hlast := last_mem zn
  have hl : (cutD lev D2).leads = D2.leads.take (lev + 1) := rfl
  have hs : (cutD lev D2).spine = D2.spine := rfl
  have hlead := leadOf_len (B2.runs _ (List.mem_of_mem_take hlast)) (by lia) x
  rw [← hl, hL] at hlead
  have W := words_ok (x / 40 % 4) (Nat.mod_lt _ (by decide)) (x / 160 % 41) (Nat.mod_lt _ (by decide))
  have hcs := closeD_spine (cutD lev D2) lead _ (by rw [hs]; exact B2.spine)
  have hcl : (closeD lead (cutD lev D2)).spine.length = (cutD lev D2).leads.length := by
    unfold closeD
    have h1 : (cutD lev D2).leads.length ≤ D2.spine.length := by rw [hl, B2.sp, List.length_take]; lia
    have h2 : 1 ≤ (cutD lev D2).leads.length := List.length_pos_iff.mpr zn
    show (closeN _ (D2.spine.length - _) D2.spine).length = _
    rw [closeN_len _ _ _ (by lia)]
    lia
  refine ⟨?_, ?_, ?_, ?_, ?_, ?_⟩
  · have := B2.text
    show (D2.text ++ lead ++ signsOf _).length ≤ _
    simp only [List.length_append]
    lia
  · intro ts hts
    have := push_bound hcs ts hts
    lia
  · show (pushTop _ _).length = (cutD lev D2).leads.length
    rw [push_len]
    exact hcl
  · show (D2.leads.take (lev + 1)).length ≤ _
    have := B2.leads
    rw [List.length_take]
    lia
  · exact zn
  · intro l hl'
    exact B2.runs l (List.mem_of_mem_take hl')
end
end Mine
end

noncomputable section -- L3z
open PySem PySem.W PySem.Calls PyProof.Rows
set_option maxRecDepth 100000
set_option autoImplicit false
namespace Mine

theorem seq_of {a b : ST} {l : Loc} {h : List O} {P : Out → Loc → List O → Prop} (k : a l h (fun o l1 h1 => match o with | .next => b l1 h1 P | o => P o l1 h1)) : sSeq a b l h P := k
section
variable {h : List O} {kp kl kb ko : Nat} {bs : List Nat} {D : DS} {Q : Out → Loc → List O → Prop} {x n : Nat}

theorem step_ok (I : DI h kp kl kb bs D) (B : DB n D) (hn : n ≤ 20) (ho : h[ko]? = some (O.list (opsL.map .str))) (mo : ¬ Md kp kl kb bs ko) {a0 a6 a7 a8 a9 a10 a11 a12 a13 a14 a15 a16 a17 a18 : Option V}
    (k : ∀ h' kl' bs' a6 a7 a8 a9 a10 a11 a12 a13 a14 a15 a16 a17 a18, DI h' kp kl' kb bs' (drawStep D x) → Fw (Md kp kl kb bs) (Md kp kl' kb bs') h h' → Q .next [a0, some (.ref ko), some (.ref kp), some (.ref kl'), some (.ref kb), some (.int x), a6, a7, a8, a9, a10, a11, a12, a13, a14, a15, a16, a17, a18] h') :
    wDraw_b5 [a0, some (.ref ko), some (.ref kp), some (.ref kl), some (.ref kb), some (.int x), a6, a7, a8, a9, a10, a11, a12, a13, a14, a15, a16, a17, a18] h Q := by
  rw [b5_chunks]
  have B1 := B.white x
  have B2 := B1.open (x % ((whiteD x D).leads.length + 1)) x
  obtain ⟨lev, hlev⟩ : ∃ lev, x % ((whiteD x D).leads.length + 1) = lev := ⟨_, rfl⟩
  rw [hlev] at B2
  obtain ⟨D2, hD2⟩ : ∃ D2, openD lev x (whiteD x D) = D2 := ⟨_, rfl⟩
  rw [hD2] at B2
  obtain ⟨lead, hL⟩ : ∃ lead, leadOf x (lastLead (cutD lev D2).leads) = lead := ⟨_, rfl⟩
  rw [drawStep_eq hlev hD2 hL] at k
  have Z1 := B1.z (by lia)
  have Z2 := B2.z (by lia)
  refine seq_of (d1_ok I (B.z (by lia)) rfl rfl rfl fun h1 I1 g1 => ?_)
  refine seq_of (d2_ok I1 Z1 rfl rfl ?_)
  rw [hlev]
  have f1 := Fw.same g1
  have b1 := B1.sp
  have b1' := B1.leads
  refine d3_ok (lev := lev) I1 Z1 (by lia) fun h2 bs2 b7 b8 b9 I2 f2 => ?_
  rw [hD2] at I2
  refine d4_ok (lev := lev) I2 Z2 fun h3 kl3 c7 c8 I3 f3 => ?_
  rw [hL]
  have hl : (cutD lev D2).leads = D2.leads.take (lev + 1) := rfl
  have hs : (cutD lev D2).spine = D2.spine := rfl
  obtain ⟨zr, zn⟩ := Z2.take lev
  have hlast := last_mem zn
  have hlead := leadOf_len (B2.runs _ (List.mem_of_mem_take hlast)) (by lia) x
  rw [← hl, hL] at hlead
  have z1 : 1 ≤ (cutD lev D2).leads.length := List.length_pos_iff.mpr zn
  have z2 : (cutD lev D2).leads.length ≤ D2.leads.length := by rw [hl, List.length_take]; lia
  have z3 := B2.sp
  have z4 := B2.leads
  have z5 := B2.text
  refine seq_of (d5_ok I3 (by lia) z1 (by rw [hs]; lia) (by rw [hs]; lia) (fun ts ht => by have := B2.spine ts ht; lia) (lead := lead) (by lia) rfl rfl rfl rfl fun h4 bs4 I4 f4 => ?_)
  have hno : 10 ∉ lead := by rw [← hL]; exact lead_no _
  have t4 : (closeD lead (cutD lev D2)).text = D2.text := rfl
  refine seq_of (d6_ok I4 hno (by rw [t4]; lia) rfl rfl fun h5 I5 f5 => ?_)
  have F5 := ((((f1.trans f2).trans f3).trans f4).trans f5)
  obtain ⟨ho5, mo5⟩ := F5 ko _ mo ho
  refine d7abc_ok (x := x) ho5 fun h6 ka kb' g6 la lb ha hb => ?_
  have I6 := I5.grow g6
  have ma := I5.fresh la
  have mb := I5.fresh lb
  refine seq_of (d7d_ok (M := Md kp kl3 kb bs4) (fun k hk => I6.lt k hk) (Nat.mod_lt _ (by decide)) ma mb ha hb fun h7 kw vs g7 lw ew W => ?_)
  have I7 := I6.grow g7
  obtain ⟨w1, w2, w3⟩ := words_ok (x / 40 % 4) (Nat.mod_lt _ (by decide)) (x / 160 % 41) (Nat.mod_lt _ (by decide))
  have hcs := closeD_spine (cutD lev D2) lead _ (by rw [hs]; exact B2.spine)
  have hne : (closeD lead (cutD lev D2)).spine ≠ [] := closeN_ne _ _ _ (by rw [hs]; exact Z2.sp)
  refine d8_ok I7 hne (fun ts ht => by have := hcs ts ht; lia) ew (I6.fresh lw) W w3 ?_ (by lia) fun h8 e15 e16 e17 e18 I8 f8 => ?_
  · rw [t4, List.length_append]; lia
  · exact k h8 kl3 bs4 _ _ _ _ _ _ _ _ _ _ _ _ _ I8 (((F5.trans (Fw.same (GrX.of g6))).trans (Fw.same (GrX.of g7))).trans f8)

theorem draw_loop {kn : Nat} {vn : List V} :
    ∀ (rest : List Nat) (h : List O) (kl : Nat) (bs : List Nat) (D : DS) (n : Nat) (pre : List Nat) (a5 a6 a7 a8 a9 a10 a11 a12 a13 a14 a15 a16 a17 a18 : Option V), DI h kp kl kb bs D → DB n D → n + rest.length ≤ 20 → h[ko]? = some (O.list (opsL.map .str)) → ¬ Md kp kl kb bs ko → h[kn]? = some (O.list (vis (pre ++ rest))) → ¬ Md kp kl kb bs kn →
      (∀ h' kl' bs' a5 a6 a7 a8 a9 a10 a11 a12 a13 a14 a15 a16 a17 a18, DI h' kp kl' kb bs' (rest.foldl drawStep D) → DB (n + rest.length) (rest.foldl drawStep D) → Q .next [some (.ref kn), some (.ref ko), some (.ref kp), some (.ref kl'), some (.ref kb), a5, a6, a7, a8, a9, a10, a11, a12, a13, a14, a15, a16, a17, a18] h') →
      forN (nxL kn) (tNm 5) wDraw_b5 (rest.length + 1) pre.length [some (.ref kn), some (.ref ko), some (.ref kp), some (.ref kl), some (.ref kb), a5, a6, a7, a8, a9, a10, a11, a12, a13, a14, a15, a16, a17, a18] h Q := by
  intro rest
  induction rest with
  | nil =>
    intro h kl bs D n pre a5 a6 a7 a8 a9 a10 a11 a12 a13 a14 a15 a16 a17 a18 I B hn ho mo en mn k
    refine ⟨none, ⟨_, en, by rw [vis_get]; simp⟩, ?_⟩
    exact k h kl bs _ _ _ _ _ _ _ _ _ _ _ _ _ _ I B
  | cons x rest ih =>
    intro h kl bs D n pre a5 a6 a7 a8 a9 a10 a11 a12 a13 a14 a15 a16 a17 a18 I B hn ho mo en mn k
    rw [List.length_cons] at hn
    refine ⟨some (.int x), ⟨_, en, by rw [vis_get]; simp⟩, ?_⟩
    show wDraw_b5 [some (.ref kn), some (.ref ko), some (.ref kp), some (.ref kl), some (.ref kb), some (.int x), a6, a7, a8, a9, a10, a11, a12, a13, a14, a15, a16, a17, a18] h _
    refine step_ok I B (by lia) ho mo fun h' kl' bs' b6 b7 b8 b9 b10 b11 b12 b13 b14 b15 b16 b17 b18 I' f' => ?_
    have el : pre.length + 1 = (pre ++ [x]).length := by simp
    show forN (nxL kn) (tNm 5) wDraw_b5 (rest.length + 1) (pre.length + 1) [some (.ref kn), some (.ref ko), some (.ref kp), some (.ref kl'), some (.ref kb), some (.int x), b6, b7, b8, b9, b10, b11, b12, b13, b14, b15, b16, b17, b18] h' Q
    rw [el]
    have ep : pre ++ x :: rest = (pre ++ [x]) ++ rest := by simp
    rw [ep] at en
    refine ih h' kl' bs' (drawStep D x) (n + 1) (pre ++ [x]) _ _ _ _ _ _ _ _ _ _ _ _ _ _ I' (step_bound B (by lia) x) (by lia) (f' _ _ mo ho).1 (f' _ _ mo ho).2 (f' _ _ mn en).1 (f' _ _ mn en).2 fun h2 kl2 bs2 c5 c6 c7 c8 c9 c10 c11 c12 c13 c14 c15 c16 c17 c18 I2 B2 => ?_
    refine k h2 kl2 bs2 _ _ _ _ _ _ _ _ _ _ _ _ _ _ I2 ?_
    have : n + (x :: rest).length = n + 1 + rest.length := by rw [List.length_cons]; lia
    rw [this]
    exact B2

noncomputable def dEnd : ST := sRet (eTup (esCons (eIdx (eNm 2) (eInt 0)) (esCons (eBin .Add (eIdx (eNm 4) (eInt 0)) (eList (esCons (eList (esCons (eInt 0) (esCons (eIdx (eNm 2) (eInt 1)) (esCons (eInt 0) esNil)))) esNil))) esNil)))
theorem dEnd_ok {b : Nat} (I : DI h kp kl kb [b] D) (hz : ∀ ts ∈ D.spine, ts.length ≤ 2 ^ 19) {l : Loc} (h2 : l[2]? = some (some (.ref kp))) (h4 : l[4]? = some (some (.ref kb)))
    (k : ∀ h' kt kr, h'[kt]? = some (O.tup [.str D.text, .ref kr]) → TV h' (fun _ => False) (.ref kr) (.l (D.spine.headD [] ++ [leafT 0 (rowOf D.text) 0])) → Q (.ret (.ref kt)) l h') : dEnd l h Q := by
  obtain ⟨vs, ts, tss, e, hv, tt⟩ := I.topv rfl
  unfold dEnd
  refine ⟨_, h2, _, _, ⟨.inl I.page, sm0, rfl⟩, ?_⟩
  refine ⟨_, h4, _, _, ⟨.inl I.bl, sm0, rfl⟩, ?_⟩
  refine ⟨_, h2, _, _, ⟨.inl I.page, sm1, rfl⟩, by simp, by simp, ?_⟩
  have g2 := (Gr.snoc h (O.list [.int 0, .int (rowOf D.text), .int 0])).trans (Gr.snoc _ (O.list [.ref h.length]))
  refine ⟨_, _, ⟨g2.get hv, snoc_get _ _, ?_⟩, ?_⟩
  · have := hz ts (by rw [e]; exact .head _)
    rw [tt.length]; simp; lia
  · have e2 : D.spine.headD [] = ts := by rw [e]; rfl
    rw [e2] at k
    have g4 := (g2.trans (Gr.snoc _ (O.list (vs ++ [.ref h.length])))).trans (Gr.snoc _ (O.tup [.str D.text, .ref (h ++ [O.list [.int 0, .int (rowOf D.text), .int 0]] ++ [O.list [.ref h.length]]).length]))
    refine ⟨by simp, k _ _ _ (snoc_get _ _) (.l (fun q => q) (snoc_old (snoc_get _ _)) ?_)⟩
    refine (tt.step (fun _ _ _ e => g4.get e) fun _ _ q => q.elim).append (.one (.l (fun q => q) (snoc_old (snoc_old (snoc_old (snoc_get _ _)))) (.cons (.i _) (.cons (.i _) (.cons (.i _) .nil)))))
theorem snoc_len (h : List O) (o : O) : (h ++ [o]).length = h.length + 1 := by simp
noncomputable def init_h (h : List O) : List O := h ++ [O.list (opsL.map .str)] ++ [O.list [.str [], .int 0, .int 0]] ++ [O.list []] ++ [O.list [.ref (h.length + 2), .int 0]] ++ [O.list [.ref (h.length + 3)]] ++ [O.list [.int 259]] ++ [O.list [.ref (h.length + 5)]]
theorem init_gr (h : List O) : Gr h (init_h h) := ((((((Gr.snoc _ _).trans (Gr.snoc _ _)).trans (Gr.snoc _ _)).trans (Gr.snoc _ _)).trans (Gr.snoc _ _)).trans (Gr.snoc _ _)).trans (Gr.snoc _ _)
theorem app_get (h t : List O) (i : Nat) : (h ++ t)[h.length + i]? = t[i]? := by
  rw [List.getElem?_append_right (by lia)]
  congr 1; lia
theorem init_eq (h : List O) : init_h h = h ++ [O.list (opsL.map .str), O.list [.str [], .int 0, .int 0], O.list [], O.list [.ref (h.length + 2), .int 0], O.list [.ref (h.length + 3)], O.list [.int 259], O.list [.ref (h.length + 5)]] := by
  unfold init_h; simp only [List.append_assoc, List.cons_append, List.nil_append]
theorem init_di (h : List O) : DI (init_h h) (h.length + 1) (h.length + 4) (h.length + 6) [h.length + 5] draw0 := by
  rw [init_eq]
  refine ⟨app_get h _ 1, ⟨_, app_get h _ 4, .cons ?_ ?_ (app_get h _ 3) (app_get h _ 2) .nil⟩, app_get h _ 6, .cons (vs := [.int 259]) (app_get h _ 5) (.cons (.i _) .nil) (.nil _), by simp⟩
  · unfold Md; simp
  · unfold Md; simp
theorem init_ops (h : List O) : (init_h h)[h.length]? = some (O.list (opsL.map .str)) := by
  rw [init_eq]; exact app_get h _ 0
theorem c_draw {kn : Nat} {ns : List Nat} (en : h[kn]? = some (O.list (vis ns))) (hn : ns.length ≤ 20) {P : V → List O → Prop}
    (k : ∀ h' kt kr, h'[kt]? = some (O.tup [.str (drawF ns).text, .ref kr]) → TV h' (fun _ => False) (.ref kr) (.l (endSpine (drawF ns))) → P (.ref kt) h') : fDraw [.ref kn] h P := by
  unfold fDraw defW wDraw
  refine ⟨_, rfl, ?_⟩
  refine ⟨⟨_, rfl⟩, ⟨by decide, by decide⟩, ?_⟩
  have e0 : splitF [43, 32, 45, 32, 42, 32, 47, 32, 124, 32, 38, 32, 60, 32, 62, 32, 61, 32, 46, 32, 37, 32, 123, 32, 125, 32, 61, 61, 32, 33, 61, 32, 60, 61, 32, 62, 61, 32, 126, 32, 94, 32, 60, 60, 32, 62, 62, 32, 42, 42, 32, 43, 61, 32, 45, 61, 32, 42, 61, 32, 47, 61, 32, 37, 61, 32, 38, 61, 32, 124, 61, 32, 94, 61, 32, 60, 60, 61, 32, 62, 62, 61, 32, 42, 42, 61, 32, 47, 47, 32, 47, 47, 61, 32, 64, 32, 64, 61, 32, 45, 62, 32, 46, 46, 46, 32, 58, 61, 32, 33] [32] = opsL := ops_split
  rw [e0]
  refine ⟨by simp, ?_⟩
  refine ⟨by simp, by simp, by simp, ?_⟩
  refine ⟨by simp, by simp, ?_⟩
  simp only [snoc_len]
  show sSeq (sForL (eNm 0) (tNm 5) wDraw_b5) (sSeq (sWhile wDraw_t1 wDraw_b0) (sSeq dEnd sPass)) [some (.ref kn), some (.ref h.length), some (.ref (h.length + 1)), some (.ref (h.length + 4)), some (.ref (h.length + 6)), none, none, none, none, none, none, none, none, none, none, none, none, none, none] (init_h h) _
  have I := init_di h
  have g := init_gr h
  have ho := init_ops h
  have hkn := get_lt en
  have mo : ¬ Md (h.length + 1) (h.length + 4) (h.length + 6) [h.length + 5] h.length := by unfold Md; simp
  have mn : ¬ Md (h.length + 1) (h.length + 4) (h.length + 6) [h.length + 5] kn := by unfold Md; simp; lia
  refine seq_of ⟨_, rfl, ⟨_, g.get en⟩, ns.length + 1, ?_⟩
  refine draw_loop (vn := []) ns (init_h h) _ _ draw0 0 [] _ _ _ _ _ _ _ _ _ _ _ _ _ _ I .zero (by lia) ho mo (g.get en) mn fun h1 kl1 bs1 c5 c6 c7 c8 c9 c10 c11 c12 c13 c14 c15 c16 c17 c18 I1 B1 => ?_
  show sSeq (sWhile wDraw_t1 wDraw_b0) (sSeq dEnd sPass) [some (.ref kn), some (.ref h.length), some (.ref (h.length + 1)), some (.ref kl1), some (.ref (h.length + 6)), c5, c6, c7, c8, c9, c10, c11, c12, c13, c14, c15, c16, c17, c18] h1 _
  have Z := B1.z (by lia)
  have z1 := B1.sp
  have z2 := B1.leads
  have z3 := List.length_pos_iff.mpr Z.sp
  refine seq_of (d5e_ok I1 z3 (by lia) Z.spine rfl rfl fun h2 bs2 I2 l2 => ?_)
  show sSeq dEnd sPass [some (.ref kn), some (.ref h.length), some (.ref (h.length + 1)), some (.ref kl1), some (.ref (h.length + 6)), c5, c6, c7, c8, c9, c10, c11, c12, c13, c14, c15, c16, c17, c18] h2 _
  obtain ⟨b, rfl⟩ : ∃ b, bs2 = [b] := by
    match bs2, l2 with
    | [b], _ => exact ⟨b, rfl⟩
  refine seq_of (dEnd_ok I2 ?_ rfl rfl fun h3 kt kr e3 t3 => ?_)
  · intro ts ht
    have := close_bound (m := 2 ^ 18) _ _ (fun ts ht => Nat.le_succ_of_le (Z.spine ts (List.mem_of_mem_take ht))) (fun ts ht => Z.spine ts (List.mem_of_mem_drop ht)) ts ht
    lia
  · exact k h3 kt kr e3 t3
end
end Mine
end

noncomputable section -- L4a
open PySem PySem.W PySem.Calls PyProof.Rows
set_option maxRecDepth 100000
set_option autoImplicit false
namespace Mine

/-! the reading: where rows begin -/
noncomputable def posG : Nat → List Nat → List Nat
  | i, [] => [i + 1]
  | i, c :: r => if c = 10 then (i + 1) :: posG (i + 1) r else posG (i + 1) r
noncomputable def startsG : Nat → List (List Nat) → List Nat
  | _, [] => []
  | a, r :: rs => (a + r.length + 1) :: startsG (a + r.length + 1) rs
theorem posG_no : ∀ (p r : List Nat) (i : Nat), 10 ∉ p → posG i (p ++ r) = posG (i + p.length) r
  | [], r, i, _ => by simp
  | c :: p, r, i, h => by
    have h1 : c ≠ 10 := fun q => h (by simp [q])
    rw [List.cons_append, posG, if_neg h1, posG_no p r (i + 1) fun q => h (by simp [q])]
    congr 1
    simp only [List.length_cons]; lia
theorem posG_gt : ∀ (r : List Nat) (i y : Nat), y ∈ posG i r → i < y
  | [], i, y, h => by
    simp only [posG, List.mem_singleton] at h
    lia
  | c :: r, i, y, h => by
    rw [posG] at h
    split at h
    · rcases List.mem_cons.mp h with h | h
      · lia
      · have := posG_gt r (i + 1) y h; lia
    · have := posG_gt r (i + 1) y h; lia
theorem posG_len : ∀ (r : List Nat) (i : Nat), (posG i r).length ≤ r.length + 1
  | [], i => by simp [posG]
  | c :: r, i => by
    rw [posG]
    have := posG_len r (i + 1)
    split
    · simp only [List.length_cons]; lia
    · simp only [List.length_cons]; lia
theorem row_cons_nl (r : List Nat) : rowOf (10 :: r) = rowOf r + 1 := by unfold rowOf; simp
theorem row_cons {c : Nat} (h : c ≠ 10) (r : List Nat) : rowOf (c :: r) = rowOf r := by unfold rowOf; simp [h]
/-- the columns, where the row's beginning is known -/
theorem col_cons {c : Nat} (r : List Nat) (h : rowOf r ≠ 0) : colOf (c :: r) = colOf r := by
  unfold rowOf at h
  unfold colOf
  rw [List.reverse_cons]
  have hm : 10 ∈ r.reverse := by
    rw [List.mem_reverse]
    exact List.count_pos_iff.mp (by lia)
  generalize r.reverse = q at hm
  induction q with
  | nil => cases hm
  | cons a q ih =>
    rw [List.cons_append, List.takeWhile_cons, List.takeWhile_cons]
    by_cases ha : a = 10
    · subst ha; simp
    · have hq : 10 ∈ q := by
        rcases List.mem_cons.mp hm with h | h
        · exact absurd h.symm ha
        · exact h
      simp only [ne_eq, decide_not, ha, decide_false, Bool.not_false, if_true, List.length_cons] at ih ⊢
      rw [ih hq]
theorem col_full {r : List Nat} (h : rowOf r = 0) : colOf r = r.length := by
  have h1 : 10 ∉ r := by
    unfold rowOf at h
    exact List.count_eq_zero.mp h
  have := col_no (a := []) h1
  simpa [colOf] using this

theorem at_gen : ∀ (r : List Nat) (acc s p : Nat), s ≤ acc → p ≤ r.length →
    ∃ y, (s :: posG acc r)[rowOf (r.take p)]? = some y ∧ y ≤ acc + p ∧ (y = if rowOf (r.take p) = 0 then s else acc + p - colOf (r.take p)) ∧ (rowOf (r.take p) ≠ 0 → colOf (r.take p) ≤ p) ∧
      (∀ i z, i ≤ rowOf (r.take p) → (s :: posG acc r)[i]? = some z → z ≤ acc + p) ∧ (∀ i z, rowOf (r.take p) < i → (s :: posG acc r)[i]? = some z → acc + p < z)
  | r, acc, s, 0, hs, _ => by
    have e : rowOf (r.take 0) = 0 := by simp [rowOf]
    rw [e]
    refine ⟨s, rfl, by lia, rfl, fun q => absurd rfl q, ?_, ?_⟩
    · intro i z hi hz
      have : i = 0 := by lia
      subst this
      simp only [List.getElem?_cons_zero, Option.some.injEq] at hz
      lia
    · intro i z hi hz
      obtain ⟨j, rfl⟩ : ∃ j, i = j + 1 := ⟨i - 1, by lia⟩
      rw [List.getElem?_cons_succ] at hz
      have := posG_gt r acc z (List.mem_of_getElem? hz)
      lia
  | [], acc, s, p + 1, _, hp => by simp at hp
  | c :: r, acc, s, p + 1, hs, hp => by
    have hp' : p ≤ r.length := by simpa using hp
    rw [List.take_succ_cons]
    by_cases hc : c = 10
    · subst hc
      obtain ⟨y, h1, h2, h3, h4, h5, h6⟩ := at_gen r (acc + 1) (acc + 1) p (Nat.le_refl _) hp'
      rw [row_cons_nl, posG, if_pos rfl]
      refine ⟨y, by rw [List.getElem?_cons_succ]; exact h1, by lia, ?_, ?_, ?_, ?_⟩
      · rw [if_neg (by lia)]
        by_cases hz : rowOf (r.take p) = 0
        · rw [if_pos hz] at h3
          have hcol : colOf (10 :: r.take p) = p := by
            have hn : 10 ∉ r.take p := by
              unfold rowOf at hz
              exact List.count_eq_zero.mp hz
            have := col_no (a := [10]) hn
            rw [List.singleton_append] at this
            rw [this, show colOf [10] = 0 from col_nl [], List.length_take]
            lia
          rw [hcol]; lia
        · rw [if_neg hz] at h3
          have := h4 hz
          rw [col_cons _ hz]; lia
      · intro _
        by_cases hz : rowOf (r.take p) = 0
        · have hn : 10 ∉ r.take p := by
            unfold rowOf at hz
            exact List.count_eq_zero.mp hz
          have := col_no (a := [10]) hn
          rw [List.singleton_append] at this
          rw [this, show colOf [10] = 0 from col_nl [], List.length_take]
          lia
        · rw [col_cons _ hz]
          have := h4 hz
          lia
      · intro i z hi hz
        cases i with
        | zero =>
          simp only [List.getElem?_cons_zero, Option.some.injEq] at hz
          lia
        | succ i =>
          rw [List.getElem?_cons_succ] at hz
          have := h5 i z (by lia) hz
          lia
      · intro i z hi hz
        obtain ⟨j, rfl⟩ : ∃ j, i = j + 1 := ⟨i - 1, by lia⟩
        rw [List.getElem?_cons_succ] at hz
        have := h6 j z (by lia) hz
        lia
    · obtain ⟨y, h1, h2, h3, h4, h5, h6⟩ := at_gen r (acc + 1) s p (by lia) hp'
      rw [row_cons hc, posG, if_neg hc]
      refine ⟨y, h1, by lia, ?_, ?_, ?_, ?_⟩
      · by_cases hz : rowOf (r.take p) = 0
        · rw [if_pos hz] at h3 ⊢
          exact h3
        · rw [if_neg hz] at h3 ⊢
          rw [col_cons _ hz]; lia
      · intro hz
        rw [col_cons _ hz]
        have := h4 hz
        lia
      · intro i z hi hz
        have := h5 i z hi hz
        lia
      · intro i z hi hz
        have := h6 i z hi hz
        lia
theorem at_starts {F : List Nat} {p : Nat} (hp : p ≤ F.length) (hF : F.length ≤ 2 ^ 15) : At (0 :: posG 0 F) p (rowOf (F.take p)) (colOf (F.take p)) := by
  obtain ⟨y, h1, h2, h3, h4, h5, h6⟩ := at_gen F 0 0 p (Nat.le_refl _) hp
  have hl := posG_len F 0
  have hc : colOf (F.take p) ≤ p ∧ y = p - colOf (F.take p) := by
    by_cases hz : rowOf (F.take p) = 0
    · have := col_full hz
      rw [List.length_take] at this
      rw [if_pos hz] at h3
      lia
    · rw [if_neg hz] at h3
      have := h4 hz
      lia
  refine ⟨by simp only [List.length_cons]; lia, by rw [h1, hc.2], hc.1, fun i z hi hz => ?_, fun i z hi hz => ?_⟩
  · have := h5 i z (by lia) hz; lia
  · have := h6 i z (by lia) hz; lia

theorem starts_join : ∀ (ps : List Str) (acc : Nat), ps ≠ [] → (∀ p ∈ ps, 10 ∉ p.cps.toList) → startsG acc (ps.map fun s => s.cps.toList) = posG acc (Str.join ⟨#[10]⟩ ps).cps.toList
  | [], _, h, _ => absurd rfl h
  | [p], acc, _, h => by
    have h1 := h p (.head _)
    have := posG_no p.cps.toList [] acc h1
    rw [List.append_nil] at this
    show [acc + p.cps.toList.length + 1] = posG acc p.cps.toList
    rw [this]; rfl
  | p :: q :: r, acc, _, h => by
    have h1 := h p (.head _)
    have ih := starts_join (q :: r) (acc + p.cps.toList.length + 1) (by simp) fun x hx => h x (.tail _ hx)
    have e : (Str.join ⟨#[10]⟩ (p :: q :: r)).cps.toList = p.cps.toList ++ 10 :: (Str.join ⟨#[10]⟩ (q :: r)).cps.toList := by
      show ((p.cps ++ #[10]) ++ (Str.join ⟨#[10]⟩ (q :: r)).cps).toList = _
      simp
    rw [e, posG_no _ _ _ h1, posG, if_pos rfl]
    show (acc + p.cps.toList.length + 1) :: startsG (acc + p.cps.toList.length + 1) ((q :: r).map fun s => s.cps.toList) = _
    rw [ih]
theorem starts_split (F : List Nat) (acc : Nat) : startsG acc (splitF F [10]) = posG acc F := by
  unfold splitF
  have hj := StrLaws.join_split ⟨F.toArray⟩ ⟨#[10]⟩
  have hf := StrLaws.split_free ⟨F.toArray⟩ 10
  have hne : Txt.split ⟨F.toArray⟩ ⟨#[10]⟩ ≠ [] := by
    intro q
    by_cases hF : F = []
    · subst hF
      revert q
      decide +kernel
    · rw [q] at hj
      have : (Str.empty).cps = F.toArray := congrArg Str.cps hj
      have e2 : (Str.empty).cps.toList = F := by rw [this]
      exact hF (by rw [← e2]; rfl)
  have := starts_join _ acc hne hf
  rw [hj] at this
  exact this
end Mine
end

noncomputable section -- L4b
open PySem PySem.W PySem.Calls PyProof.Rows
set_option maxRecDepth 100000
set_option autoImplicit false
namespace Mine

noncomputable def startsF (F : List Nat) : List Nat := 0 :: posG 0 F
noncomputable def leafP (F : List Nat) (n : Int) (p : Nat) : T := leafT n (rowOf (F.take p)) (colOf (F.take p))
inductive WsL (h : List O) : List Nat → List WS → Prop
  | nil : WsL h [] []
  | cons {a : Nat} {w : WS} {as : List Nat} {ws : List WS} : IsWs h a w → WsL h as ws → WsL h (a :: as) (w :: ws)
theorem IsWs.keep {h h' : List O} {k : Nat} {s : WS} (g : ∀ (k : Nat) (o : O), (∀ xs, o ≠ O.list xs) → h[k]? = some o → h'[k]? = some o) : IsWs h k s → IsWs h' k s
  | ⟨ws, kt, kn, a, b, c⟩ => ⟨ws, kt, kn, g _ _ (fun _ q => by cases q) a, g _ _ (fun _ q => by cases q) b, g _ _ (fun _ q => by cases q) c⟩
namespace WsL
variable {h h' : List O}
theorem keep (g : ∀ (k : Nat) (o : O), (∀ xs, o ≠ O.list xs) → h[k]? = some o → h'[k]? = some o) : ∀ {a : List Nat} {w : List WS}, WsL h a w → WsL h' a w
  | _, _, .nil => .nil
  | _, _, .cons i r => .cons (i.keep g) (r.keep g)
theorem length : ∀ {a : List Nat} {w : List WS}, WsL h a w → a.length = w.length
  | _, _, .nil => rfl
  | _, _, .cons i r => by simp [r.length]
theorem append : ∀ {a b : List Nat} {w v : List WS}, WsL h a w → WsL h b v → WsL h (a ++ b) (w ++ v)
  | _, _, _, _, .nil, q => q
  | _, _, _, _, .cons i r, q => .cons i (r.append q)
theorem last {w : List WS} {x : WS} : ∀ {a : List Nat}, WsL h a (w ++ [x]) → ∃ as k, a = as ++ [k] ∧ IsWs h k x ∧ WsL h as w := by
  induction w with
  | nil =>
    intro a q
    cases q with
    | cons i r => cases r; exact ⟨[], _, rfl, i, .nil⟩
  | cons y w ih =>
    intro a q
    cases q with
    | cons i r =>
      obtain ⟨as, k, rfl, p1, p2⟩ := ih r
      exact ⟨_ :: as, k, rfl, p1, .cons i p2⟩
end WsL

noncomputable def Mr (kp kl k : Nat) : Prop := k = kp ∨ k = kl
structure RI (h : List O) (F : List Nat) (FX : List (Nat × O)) (ks kp kl : Nat) (pile : List T) (leads : List WS) : Prop where
  st : h[ks]? = some (O.list (vis (startsF F)))
  pl : ∃ vs, h[kp]? = some (O.list vs) ∧ TVs h (Mr kp kl) vs pile
  ld : ∃ ls : List Nat, h[kl]? = some (O.list (ls.map .ref)) ∧ WsL h ls leads
  n1 : kp ≠ kl
  n2 : ks ≠ kp
  n3 : ks ≠ kl
  sz : F.length ≤ 2 ^ 15
  fx : ∀ e ∈ FX, h[e.1]? = some e.2 ∧ ¬ Mr kp kl e.1
section
variable {h h' : List O} {F : List Nat} {FX : List (Nat × O)} {ks kp kl : Nat} {pile : List T} {leads : List WS} {p : Nat} {P : V → List O → Prop}
theorem RI.lm (I : RI h F FX ks kp kl pile leads) : ∀ k, Mr kp kl k → k < h.length := by
  obtain ⟨vs, e, _⟩ := I.pl
  obtain ⟨ls, e2, _⟩ := I.ld
  rintro k (rfl | rfl)
  · exact get_lt e
  · exact get_lt e2
theorem RI.grow (I : RI h F FX ks kp kl pile leads) (g : Gr h h') : RI h' F FX ks kp kl pile leads := by
  obtain ⟨vs, e, t⟩ := I.pl
  obtain ⟨ls, e2, w⟩ := I.ld
  exact ⟨g.get I.st, ⟨vs, g.get e, t.step (fun _ _ _ e => g.get e) fun _ _ q => q⟩, ⟨ls, g.get e2, w.keep fun _ _ _ e => g.get e⟩, I.n1, I.n2, I.n3, I.sz, fun e he => ⟨g.get (I.fx e he).1, (I.fx e he).2⟩⟩
/-- the pile alone changed -/
theorem RI.setPile (I : RI h F FX ks kp kl pile leads) {pile' : List T} {vs' : List V} (g : GrX (fun k => k = kp) h h') (e' : h'[kp]? = some (O.list vs')) (t' : TVs h' (Mr kp kl) vs' pile') : RI h' F FX ks kp kl pile' leads := by
  obtain ⟨vs, e, t⟩ := I.pl
  obtain ⟨ls, e2, w⟩ := I.ld
  refine ⟨g.keep _ _ I.n2 I.st, ⟨vs', e', t'⟩, ⟨ls, g.keep _ _ (Ne.symm I.n1) e2, w.keep fun k o ho eo => g.keep _ _ (fun q => ?_) eo⟩, I.n1, I.n2, I.n3, I.sz, fun e he => ⟨g.keep _ _ (fun q => (I.fx e he).2 (.inl q)) (I.fx e he).1, (I.fx e he).2⟩⟩
  rw [q, e] at eo
  cases eo
  exact ho _ rfl
/-- the leads alone changed -/
theorem RI.setLeads (I : RI h F FX ks kp kl pile leads) {leads' : List WS} {ls' : List Nat} (w' : WsL h ls' leads') : RI (h.set kl (O.list (ls'.map .ref))) F FX ks kp kl pile leads' := by
  obtain ⟨vs, e, t⟩ := I.pl
  obtain ⟨ls, e2, w⟩ := I.ld
  have keep : ∀ (k : Nat) (o : O), k ≠ kl → h[k]? = some o → (h.set kl (O.list (ls'.map .ref)))[k]? = some o := fun k o hk e => by rw [set_other (Ne.symm hk)]; exact e
  refine ⟨keep _ _ I.n3 I.st, ⟨vs, keep _ _ I.n1 e, t.step (fun k o hk eo => keep _ _ (fun q => hk (.inr q)) eo) fun _ _ q => q⟩, ⟨ls', set_self e2, w'.keep fun k o ho eo => keep _ _ (fun q => ?_) eo⟩, I.n1, I.n2, I.n3, I.sz, fun e he => ⟨keep _ _ (fun q => (I.fx e he).2 (.inr q)) (I.fx e he).1, (I.fx e he).2⟩⟩
  rw [q, e2] at eo
  cases eo
  exact ho _ rfl

theorem r_leaf (I : RI h F FX ks kp kl pile leads) {n : Int} (hp : p ≤ F.length) (hz : pile.length ≤ 2 ^ 19) (h0 : n ≠ 0) (h4 : n ≠ 4) (h6 : n ≠ 6) (k : ∀ h', RI h' F FX ks kp kl (pile ++ [leafP F n p]) leads → P .none h') : fLay [.ref kp, .ref ks, .int n, .int p] h P := by
  obtain ⟨vs, e, t⟩ := I.pl
  exact c_lay_leaf (M := Mr kp kl) (at_starts hp I.sz) I.st e t (.inl rfl) I.lm hz h0 h4 h6 fun h' vs' g e' t' => k h' (I.setPile g e' t')
theorem r_zero (I : RI h F FX ks kp kl pile leads) (hp : p ≤ F.length) (hz : pile.length ≤ 2 ^ 19) (hd : depTs pile ≤ 60) (k : ∀ h', RI h' F FX ks kp kl [.l (.i 259 :: (pile ++ [leafP F 0 p]))] leads → P .none h') : fLay [.ref kp, .ref ks, .int 0, .int p] h P := by
  obtain ⟨vs, e, t⟩ := I.pl
  exact c_lay_0 (M := Mr kp kl) (at_starts hp I.sz) I.st e t (.inl rfl) I.lm hz hd fun h' vs' g e' t' => k h' (I.setPile g e' t')
theorem r_four {rest suf : List T} (I : RI h F FX ks kp kl (rest ++ suf) leads) (hp : p ≤ F.length) (hz : (rest ++ suf).length ≤ 2 ^ 19) (hsuf : ∀ t ∈ suf, Tagged (fun n => n ≠ 5 ∧ n < 256) t) (hr : Stop rest) (hd : depTs (rest ++ suf) ≤ 60)
    (k : ∀ h', RI h' F FX ks kp kl (rest ++ [.l (.i 256 :: (suf ++ [leafP F 4 p]))]) leads → P .none h') : fLay [.ref kp, .ref ks, .int 4, .int p] h P := by
  obtain ⟨vs, e, t⟩ := I.pl
  exact c_lay_4 (M := Mr kp kl) (at_starts hp I.sz) I.st e t (.inl rfl) I.lm hz hsuf hr hd fun h' vs' g e' t' => k h' (I.setPile g e' t')
/-- one block closed -/
noncomputable def Close6 (six : T) (pile pile' : List T) : Prop := ∃ rest five suf, pile = rest ++ [five] ++ suf ∧ (∀ t ∈ suf, Tagged (256 ≤ ·) t) ∧ Tagged (· < 256) five ∧ pile' = rest ++ [.l (.i 257 :: five :: (suf ++ [six]))]
noncomputable def Closes (six : T) : Nat → List T → List T → Prop
  | 0, p, p' => p' = p
  | n + 1, p, p' => ∃ q, Close6 six p q ∧ Closes six n q p'
theorem Close6.len {six : T} {p q : List T} (h : Close6 six p q) : q.length ≤ p.length := by
  obtain ⟨rest, five, suf, rfl, _, _, rfl⟩ := h
  simp
theorem r_six {pile' : List T} (I : RI h F FX ks kp kl pile leads) (hp : p ≤ F.length) (hz : pile.length ≤ 2 ^ 19) (hc : Close6 (leafP F 6 p) pile pile') (k : ∀ h', RI h' F FX ks kp kl pile' leads → P .none h') : fLay [.ref kp, .ref ks, .int 6, .int p] h P := by
  obtain ⟨rest, five, suf, rfl, h1, h2, rfl⟩ := hc
  obtain ⟨vs, e, t⟩ := I.pl
  exact c_lay_6 (M := Mr kp kl) (at_starts hp I.sz) I.st e t (.inl rfl) I.lm hz h1 h2 fun h' vs' g e' t' => k h' (I.setPile g e' t')
end

/-! the reading's states and steps -/
structure RS where
  pile : List T
  leads : List WS
  fresh : Bool
  mark : Option Nat
  after : Nat
  begin : Nat
noncomputable def Small (s : RS) : Prop := s.pile.length ≤ 2 ^ 18 ∧ depTs s.pile ≤ 50 ∧ s.leads.length ≤ 1000
/-- how many leads are left -/
inductive FrS (F : List Nat) (p : Nat) : RS → RS → Prop
  | skip {s : RS} : (s.fresh = false ∨ p < s.after) → FrS F p s s
  | white {s : RS} {lead rest : List Nat} : s.fresh = true → s.after ≤ p → F.drop p = lead ++ 10 :: rest → (∀ c ∈ lead, blank c) → lead.length ≤ 1000 → FrS F p s { s with pile := s.pile ++ [.l [.i 258, leafP F 63 (p + lead.length)]], begin := p + lead.length, after := p + lead.length + 1 }
  | deeper {s : RS} {lead rest : List Nat} {c : Nat} {ls : List WS} {t : WS} : s.fresh = true → s.after ≤ p → F.drop p = lead ++ c :: rest → (∀ c ∈ lead, blank c) → lead.length ≤ 1000 → ¬ blank c → c ≠ 10 → s.leads = ls ++ [t] → SmallW t → SmallW (wsOf lead) → t.n < (wsOf lead).n → t.nt ≤ (wsOf lead).nt → (∀ ts, 1 ≤ ts → indentF t ts < indentF (wsOf lead) ts) →
      FrS F p s { s with pile := s.pile ++ [leafP F 5 p], leads := s.leads ++ [wsOf lead], fresh := false, begin := p + lead.length, after := p + lead.length }
  | back {s : RS} {lead rest : List Nat} {c : Nat} {ls pop : List WS} {t t0 : WS} {ini pile' : List T} {lz : List WS} : s.fresh = true → s.after ≤ p → F.drop p = lead ++ c :: rest → (∀ c ∈ lead, blank c) → lead.length ≤ 1000 → ¬ blank c → c ≠ 10 → s.leads = ls ++ [t] ++ pop → s.leads = lz ++ [t0] → (wsOf lead).n ≤ t0.n →
      (t.count = (wsOf lead).count ∧ t.b = (wsOf lead).b) → (∀ w ∈ pop, ¬ (w.count = (wsOf lead).count ∧ w.b = (wsOf lead).b)) → Closes (leafP F 6 (p + lead.length)) pop.length s.pile pile' →
      FrS F p s { s with pile := pile', leads := ls ++ [t], fresh := false, begin := p + lead.length, after := p + lead.length }
noncomputable def munch (w : List Nat) : Nat := if (tabF (w.take 3)).isNone then (if (tabF (w.take 2)).isNone then 1 else 2) else 3
inductive Un (F : List Nat) (p : Nat) (u : List Nat) : RS → RS → Prop
  | skip {s : RS} : p < s.after → Un F p u s s
  | quote {s : RS} : s.after ≤ p → u = [34] → Un F p u s { s with mark := some p }
  | line {s : RS} {rest suf : List T} : s.after ≤ p → depTs s.pile ≤ 60 → u = [10] → checkF (cut F (some (s.begin : Int)) (some (p : Int))) = some true → (cut F (some (s.begin : Int)) (some (p : Int))).length ≤ 1000 → escEnd false (cut F (some (s.begin : Int)) (some (p : Int))) = false → escEnd false (stripF (cut F (some (s.begin : Int)) (some (p : Int)))) = false →
      s.pile = rest ++ suf → (∀ t ∈ suf, Tagged (fun n => n ≠ 5 ∧ n < 256) t) → Stop rest → Un F p u s { s with pile := rest ++ [.l (.i 256 :: (suf ++ [leafP F 4 p]))], fresh := true, after := p + 1 }
  | inner {s : RS} : s.after ≤ p → u = [10] → checkF (cut F (some (s.begin : Int)) (some (p : Int))) = some false → (cut F (some (s.begin : Int)) (some (p : Int))).length ≤ 1000 → escEnd false (cut F (some (s.begin : Int)) (some (p : Int))) = false → escEnd false (stripF (cut F (some (s.begin : Int)) (some (p : Int)))) = false →
      Un F p u s { s with pile := s.pile ++ [leafP F 63 p] }
  | name {s : RS} : s.after ≤ p → u = [97] ∨ u = [98] → Un F p u s { s with pile := s.pile ++ [leafP F 1 p] }
  | blank {s : RS} : s.after ≤ p → u = [32] ∨ u = [9] ∨ u = [92, 10] → Un F p u s s
  | op {s : RS} {n : Int} : s.after ≤ p → u ∉ [[34], [10], [97], [98], [32], [9], [92, 10]] → tabF ((F.drop p).take (munch (F.drop p))) = some n → n ≠ 0 → n ≠ 4 → n ≠ 6 → Un F p u s { s with pile := s.pile ++ [leafP F n p], after := p + munch (F.drop p) }
inductive St (F : List Nat) (p : Nat) (u : List Nat) : RS → RS → Prop
  | inn {s : RS} {m : Nat} : s.mark = some m → u ≠ [34] → St F p u s s
  | out {s : RS} {m : Nat} : s.mark = some m → u = [34] → m ≤ F.length → St F p u s { s with pile := s.pile ++ [leafP F 3 m], mark := none }
  | go {s s1 s2 : RS} : s.mark = none → FrS F p s s1 → Un F p u s1 s2 → St F p u s s2
end Mine
end

noncomputable section -- L4c
open PySem PySem.W PySem.Calls PyProof.Rows
set_option maxRecDepth 100000
set_option autoImplicit false
namespace Mine

noncomputable abbrev Lr (F : List Nat) (ks : Nat) (x2 : Option V) (kp kl : Nat) (fr : Bool) (mk : V) (af be p : Nat) (u : List Nat) (x11 x12 : Option V) : Loc :=
  [some (.str F), some (.ref ks), x2, some (.ref kp), some (.ref kl), some (.bool fr), some mk, some (.int af), some (.int be), some (.int p), some (.str u), x11, x12]
noncomputable def q1 : ST := sIf (bCmp .IsNot (eNm 6) eNone) (sSeq (sIf (bCmp .Eq (eNm 10) (eStr [34])) (sSeq (sExp (eApp fLay (esCons (eNm 3) (esCons (eNm 1) (esCons (eInt 3) (esCons (eNm 6) esNil)))))) (sSeq (sAsg 6 eNone) sPass)) sPass) (sSeq sCont sPass)) sPass
noncomputable def q2a : ST := sIf (bVal (eMeth isInstV fLess (eIdx (eNm 4) (eNeg (eInt 1))) (esCons (eNm 11) esNil))) (sSeq (sExp (eMeth isListV mAppend (eNm 4) (esCons (eNm 11) esNil))) (sSeq (sExp (eApp fLay (esCons (eNm 3) (esCons (eNm 1) (esCons (eInt 5) (esCons (eNm 9) esNil)))))) sPass)) sPass
noncomputable def q2b : ST := sIf (bCmp .Eq (eIdx (eNm 0) (eNm 8)) (eStr [10])) (sSeq (sExp (eApp fLay (esCons (eNm 3) (esCons (eNm 1) (esCons (eInt 63) (esCons (eNm 8) esNil)))))) (sSeq (sExp (eMeth isListV mAppend (eNm 3) (esCons (eList (esCons (eInt 258) (esCons (eMeth isListV mPop (eNm 3) esNil) esNil))) esNil))) (sSeq (sAsg 7 (eBin .Add (eNm 8) (eInt 1))) sPass))) (sSeq (sAsg 5 (eBool false)) (sSeq q2a (sSeq (sWhile wRead_t5 wRead_b4) sPass)))
noncomputable def q2 : ST := sIf (bAnd (bVal (eNm 5)) (bAnd (bCmp .GtE (eNm 9) (eNm 7)) bTrue)) (sSeq (sAsg 11 (eApp (wsNew fInit) (esCons (eSlc (eNm 0) (some (eNm 9)) none) esNil))) (sSeq (sAsg 8 (eBin .Add (eNm 9) (eAttr 1 (eNm 11)))) (sSeq (sAsg 7 (eNm 8)) (sSeq q2b sPass)))) sPass
noncomputable def q3 : ST := sIf (bCmp .Lt (eNm 9) (eNm 7)) (sSeq sCont sPass) sPass
noncomputable def q4d : ST := sIf (bCmp .NotIn (eNm 10) (eList (esCons (eStr [32]) (esCons (eStr [9]) (esCons (eStr [92, 10]) esNil))))) (sSeq (sAsg 12 (eInt 3)) (sSeq (sWhile wRead_t3 wRead_b2) (sSeq (sExp (eApp fLay (esCons (eNm 3) (esCons (eNm 1) (esCons (eTab tabF (eSlc (eNm 0) (some (eNm 9)) (some (eBin .Add (eNm 9) (eNm 12))))) (esCons (eNm 9) esNil)))))) (sSeq (sAsg 7 (eBin .Add (eNm 9) (eNm 12))) sPass)))) sPass
noncomputable def q4c : ST := sIf (bCmp .In (eNm 10) (eList (esCons (eStr [97]) (esCons (eStr [98]) esNil)))) (sSeq (sExp (eApp fLay (esCons (eNm 3) (esCons (eNm 1) (esCons (eInt 1) (esCons (eNm 9) esNil)))))) sPass) (sSeq q4d sPass)
noncomputable def q4b : ST := sIf (bCmp .Eq (eNm 10) (eStr [10])) (sSeq (sIf (bVal (eApp fCheck (esCons (eSlc (eNm 0) (some (eNm 8)) (some (eNm 9))) esNil))) (sSeq (sExp (eApp fLay (esCons (eNm 3) (esCons (eNm 1) (esCons (eInt 4) (esCons (eNm 9) esNil)))))) (sSeq (sAsg 5 (eBool true)) (sSeq (sAsg 7 (eBin .Add (eNm 9) (eInt 1))) sPass))) (sSeq (sExp (eApp fLay (esCons (eNm 3) (esCons (eNm 1) (esCons (eInt 63) (esCons (eNm 9) esNil)))))) sPass)) sPass) (sSeq q4c sPass)
noncomputable def q4 : ST := sIf (bCmp .Eq (eNm 10) (eStr [34])) (sSeq (sAsg 6 (eNm 9)) sPass) (sSeq q4b sPass)
theorem b6_chunks : wRead_b6 = sSeq q1 (sSeq q2 (sSeq q3 (sSeq q4 sPass))) := rfl

theorem cut_sub {α : Type} (xs : List α) (a k : Nat) (ha : a ≤ xs.length) : cut xs (some (a : Int)) (some ((a : Int) + (k : Int))) = (xs.drop a).take k := by
  unfold cut kms_lo kms_hi
  have h1 : ¬ ((a : Int) < 0) := by lia
  have h2 : ¬ ((a : Int) + (k : Int) < 0) := by lia
  simp only [if_neg h1, if_neg h2]
  have e1 : (a : Int).toNat = a := by lia
  have e2 : ((a : Int) + (k : Int)).toNat = a + k := by lia
  rw [e1, e2, Nat.min_eq_left ha]
  by_cases hk : a + k ≤ xs.length
  · rw [Nat.min_eq_left hk]; congr 1; lia
  · rw [Nat.min_eq_right (by lia), List.take_of_length_le (by simp), List.take_of_length_le (by simp; lia)]
theorem cut_drop {α : Type} (xs : List α) (a : Nat) (ha : a ≤ xs.length) : cut xs (some (a : Int)) none = xs.drop a := by
  unfold cut kms_lo kms_hi
  have h1 : ¬ ((a : Int) < 0) := by lia
  simp only [if_neg h1]
  have e1 : (a : Int).toNat = a := by lia
  rw [e1, Nat.min_eq_left ha, List.take_of_length_le (by simp)]

section
variable {h : List O} {F : List Nat} {FX : List (Nat × O)} {ks kp kl : Nat} {p : Nat} {u : List Nat} {Q : Out → Loc → List O → Prop} {x2 x11 x12 : Option V}

theorem t3_ok {fr : Bool} {mk : V} {af be : Nat} (hp : p ≤ F.length) (hF : F.length ≤ 2 ^ 15) {z : Nat} (hz : 1 < z) {P : Bool → List O → Prop} (k : P (tabF ((F.drop p).take z)).isNone h) :
    wRead_t3 (Lr F ks x2 kp kl fr mk af be p u x11 (some (.int (z : Int)))) h P := by
  unfold wRead_t3
  refine ⟨_, rfl, ?_⟩
  show (match decide ((1 : Int) < (z : Int)) with | true => _ | false => _)
  rw [decide_eq_true (by lia : (1 : Int) < (z : Int))]
  refine ⟨_, rfl, _, rfl, _, rfl, _, rfl, by lia, ?_⟩
  rw [cut_sub F p z hp]
  show (match (tabF ((F.drop p).take z)).isNone with | true => _ | false => _)
  cases e : (tabF ((F.drop p).take z)).isNone with
  | true => rw [e] at k; exact k
  | false => rw [e] at k; exact k
theorem munch_ok {fr : Bool} {mk : V} {af be : Nat} (hp : p ≤ F.length) (hF : F.length ≤ 2 ^ 15) (k : Q .next (Lr F ks x2 kp kl fr mk af be p u x11 (some (.int (munch (F.drop p) : Int)))) h) :
    sWhile wRead_t3 wRead_b2 (Lr F ks x2 kp kl fr mk af be p u x11 (some (.int 3))) h Q := by
  refine ⟨3, ?_⟩
  refine t3_ok (z := 3) hp hF (by decide) ?_
  unfold munch at k
  cases e3 : (tabF ((F.drop p).take 3)).isNone with
  | false =>
    rw [e3] at k
    exact k
  | true =>
    rw [e3] at k
    refine ⟨_, rfl, ?_⟩
    show whileN wRead_t3 wRead_b2 2 (Lr F ks x2 kp kl fr mk af be p u x11 (some (.int ((2 : Nat) : Int)))) h Q
    refine t3_ok (z := 2) hp hF (by decide) ?_
    cases e2 : (tabF ((F.drop p).take 2)).isNone with
    | false =>
      rw [e2] at k
      exact k
    | true =>
      rw [e2] at k
      refine ⟨_, rfl, ?_⟩
      show whileN wRead_t3 wRead_b2 1 (Lr F ks x2 kp kl fr mk af be p u x11 (some (.int ((1 : Nat) : Int)))) h Q
      refine ⟨_, rfl, ?_⟩
      exact k

theorem un_ok {s s' : RS} (U : Un F p u s s') (hm : s.mark = none) (hz : s.pile.length ≤ 2 ^ 19) (hp : p ≤ F.length) (I : RI h F FX ks kp kl s.pile s.leads)
    (k : ∀ h' o x11 x12, (o = .next ∨ o = .cont) → RI h' F FX ks kp kl s'.pile s'.leads → Q o (Lr F ks x2 kp kl s'.fresh (opV s'.mark) s'.after s'.begin p u x11 x12) h') :
    sSeq q3 (sSeq q4 sPass) (Lr F ks x2 kp kl s.fresh (opV s.mark) s.after s.begin p u x11 x12) h Q := by
  have hF := I.sz
  unfold q3
  refine ⟨_, rfl, _, rfl, ?_⟩
  show (match decide ((p : Int) < (s.after : Int)) with | true => _ | false => _)
  cases U with
  | skip ha =>
    rw [decide_eq_true (by lia : (p : Int) < (s.after : Int))]
    exact k h .cont _ _ (.inr rfl) I
  | quote ha hu =>
    subst hu
    rw [decide_eq_false (by lia : ¬ (p : Int) < (s.after : Int))]
    refine ⟨_, rfl, _, rfl, ?_⟩
    exact k h .next _ _ (.inl rfl) I
  | @line rest suf ha hd hu hc hl he1 he2 hpl hsuf hst =>
    subst hu
    rw [decide_eq_false (by lia : ¬ (p : Int) < (s.after : Int))]
    refine ⟨_, rfl, ?_⟩
    refine ⟨_, rfl, ?_⟩
    refine ⟨_, rfl, _, rfl, _, rfl, by lia, ?_⟩
    refine c_check hl he1 he2 hc fun h1 g1 => ?_
    have I1 := I.grow g1
    rw [hpl] at I1 hz hd
    refine ⟨_, rfl, _, rfl, _, rfl, ?_⟩
    refine r_four I1 hp hz hsuf hst hd fun h2 I2 => ?_
    refine ⟨_, rfl, ?_⟩
    exact k h2 .next _ _ (.inl rfl) I2
  | inner ha hu hc hl he1 he2 =>
    subst hu
    rw [decide_eq_false (by lia : ¬ (p : Int) < (s.after : Int))]
    refine ⟨_, rfl, ?_⟩
    refine ⟨_, rfl, ?_⟩
    refine ⟨_, rfl, _, rfl, _, rfl, by lia, ?_⟩
    refine c_check hl he1 he2 hc fun h1 g1 => ?_
    have I1 := I.grow g1
    refine ⟨_, rfl, _, rfl, _, rfl, ?_⟩
    refine r_leaf I1 hp hz (by decide) (by decide) (by decide) fun h2 I2 => ?_
    exact k h2 .next _ _ (.inl rfl) I2
  | name ha hu =>
    rw [decide_eq_false (by lia : ¬ (p : Int) < (s.after : Int))]
    rcases hu with rfl | rfl
    · refine ⟨_, rfl, ?_⟩
      refine ⟨_, rfl, ?_⟩
      refine ⟨_, rfl, by simp, [[97], [98]], snoc_get _ _, ?_⟩
      refine ⟨_, rfl, _, rfl, _, rfl, ?_⟩
      refine r_leaf (I.grow (Gr.snoc _ _)) hp hz (by decide) (by decide) (by decide) fun h2 I2 => ?_
      exact k h2 .next _ _ (.inl rfl) I2
    · refine ⟨_, rfl, ?_⟩
      refine ⟨_, rfl, ?_⟩
      refine ⟨_, rfl, by simp, [[97], [98]], snoc_get _ _, ?_⟩
      refine ⟨_, rfl, _, rfl, _, rfl, ?_⟩
      refine r_leaf (I.grow (Gr.snoc _ _)) hp hz (by decide) (by decide) (by decide) fun h2 I2 => ?_
      exact k h2 .next _ _ (.inl rfl) I2
  | blank ha hu =>
    rw [decide_eq_false (by lia : ¬ (p : Int) < (s.after : Int))]
    rcases hu with rfl | rfl | rfl
    · refine ⟨_, rfl, ?_⟩
      refine ⟨_, rfl, ?_⟩
      refine ⟨_, rfl, by simp, [[97], [98]], snoc_get _ _, ?_⟩
      refine ⟨_, rfl, by simp, [[32], [9], [92, 10]], snoc_get _ _, ?_⟩
      exact k _ .next _ _ (.inl rfl) ((I.grow (Gr.snoc _ _)).grow (Gr.snoc _ _))
    · refine ⟨_, rfl, ?_⟩
      refine ⟨_, rfl, ?_⟩
      refine ⟨_, rfl, by simp, [[97], [98]], snoc_get _ _, ?_⟩
      refine ⟨_, rfl, by simp, [[32], [9], [92, 10]], snoc_get _ _, ?_⟩
      exact k _ .next _ _ (.inl rfl) ((I.grow (Gr.snoc _ _)).grow (Gr.snoc _ _))
    · refine ⟨_, rfl, ?_⟩
      refine ⟨_, rfl, ?_⟩
      refine ⟨_, rfl, by simp, [[97], [98]], snoc_get _ _, ?_⟩
      refine ⟨_, rfl, by simp, [[32], [9], [92, 10]], snoc_get _ _, ?_⟩
      exact k _ .next _ _ (.inl rfl) ((I.grow (Gr.snoc _ _)).grow (Gr.snoc _ _))
  | @op n ha hu ht h0 h4 h6 =>
    rw [decide_eq_false (by lia : ¬ (p : Int) < (s.after : Int))]
    simp only [List.mem_cons, not_or] at hu
    obtain ⟨u1, u2, u3, u4, u5, u6, u7, _⟩ := hu
    refine ⟨_, rfl, ?_⟩
    show (match decide (u = [34]) with | true => _ | false => _)
    rw [decide_eq_false u1]
    refine ⟨_, rfl, ?_⟩
    show (match decide (u = [10]) with | true => _ | false => _)
    rw [decide_eq_false u2]
    refine ⟨_, rfl, by simp, [[97], [98]], snoc_get _ _, ?_⟩
    show (match decide (u ∈ [[97], [98]]) with | true => _ | false => _)
    rw [decide_eq_false (by simp [u3, u4])]
    refine ⟨_, rfl, by simp, [[32], [9], [92, 10]], snoc_get _ _, ?_⟩
    show (match (!decide (u ∈ [[32], [9], [92, 10]])) with | true => _ | false => _)
    rw [decide_eq_false (by simp [u5, u6, u7])]
    have I1 := (I.grow (Gr.snoc h (O.list [.str [97], .str [98]]))).grow (Gr.snoc _ (O.list [.str [32], .str [9], .str [92, 10]]))
    refine seq_of (munch_ok hp hF ?_)
    refine ⟨_, rfl, _, rfl, _, rfl, _, rfl, _, rfl, _, rfl, by lia, ?_⟩
    rw [cut_sub F p _ hp]
    refine ⟨n, ht, _, rfl, ?_⟩
    refine r_leaf I1 hp hz h0 h4 h6 fun h2 I2 => ?_
    refine ⟨_, rfl, _, rfl, ?_⟩
    exact k h2 .next _ _ (.inl rfl) I2
end
end Mine
end

noncomputable section -- L4d
open PySem PySem.W PySem.Calls PyProof.Rows
set_option maxRecDepth 100000
set_option autoImplicit false
namespace Mine

theorem ws_n_go : ∀ (lead : List Nat) (s : WS), (lead.foldl wsStep s).n = s.n + lead.length
  | [], s => rfl
  | c :: r, s => by
    rw [List.foldl_cons, ws_n_go r]
    have : (wsStep s c).n = s.n + 1 := by unfold wsStep; split <;> rfl
    rw [this, List.length_cons]; lia
theorem ws_n (lead : List Nat) : (wsOf lead).n = lead.length := by
  unfold wsOf
  rw [ws_n_go]
  exact Nat.zero_add _
section
variable {h : List O} {F : List Nat} {FX : List (Nat × O)} {ks kp kl : Nat} {p : Nat} {u : List Nat} {Q : Out → Loc → List O → Prop} {x2 x11 x12 : Option V}

theorem IsWs.inst {h : List O} {k : Nat} {s : WS} (i : IsWs h k s) : ∃ xs, h[k]? = some (O.inst xs) ∧ xs[1]? = some (.int s.n) := by
  obtain ⟨ws, kt, kn, a, _, _⟩ := i
  exact ⟨_, a, rfl⟩
theorem IsWs.isV {h : List O} {k : Nat} {s : WS} (i : IsWs h k s) : isInstV (.ref k) h := by
  obtain ⟨xs, e, _⟩ := i.inst
  exact ⟨k, xs, rfl, e⟩
/-- the frame of one Whitespace over a step of the reading -/
noncomputable def Keep (h h' : List O) : Prop := ∀ (k : Nat) (o : O), (∀ xs, o ≠ O.list xs) → h[k]? = some o → h'[k]? = some o
theorem Keep.refl (h : List O) : Keep h h := fun _ _ _ e => e
theorem Keep.trans {a b c : List O} (x : Keep a b) (y : Keep b c) : Keep a c := fun k o n e => y k o n (x k o n e)
theorem Keep.gr {a b : List O} (g : Gr a b) : Keep a b := fun _ _ _ e => g.get e
theorem Keep.set {a : List O} {k : Nat} {xs : List V} {o : O} (e : a[k]? = some (O.list xs)) : Keep a (a.set k o) := fun j p n ej => by
  have ne : k ≠ j := by
    rintro rfl
    rw [e] at ej
    cases ej
    exact n _ rfl
  rw [set_other ne]; exact ej

theorem t5_ok {kw : Nat} {pile : List T} {ls : List WS} {t w : WS} {l : Loc} (I : RI h F FX ks kp kl pile (ls ++ [t])) (iw : IsWs h kw w) (h4 : l[4]? = some (some (.ref kl))) (h11 : l[11]? = some (some (.ref kw))) {P : Bool → List O → Prop} (k : P (!decide (t.count = w.count ∧ t.b = w.b)) h) : wRead_t5 l h P := by
  obtain ⟨la, e, wl⟩ := I.ld
  obtain ⟨as, kt, rfl, it, _⟩ := wl.last
  unfold wRead_t5
  have e' : h[kl]? = some (O.list (as.map .ref ++ [.ref kt])) := by rw [e]; simp
  refine ⟨_, h4, _, _, ⟨.inl e', smn1, at_last _ _⟩, it.isV, _, h11, ?_⟩
  refine c_equal it iw ?_
  exact k

theorem pop_leads {pile : List T} {ls : List WS} {t : WS} {l : Loc} (I : RI h F FX ks kp kl pile (ls ++ [t])) (hz : ls.length ≤ 2 ^ 19) (h4 : l[4]? = some (some (.ref kl))) {P : V → List O → Prop} (k : ∀ h' v, Keep h h' → RI h' F FX ks kp kl pile ls → P v h') :
    eMeth isListV mPop (eNm 4) esNil l h P := by
  obtain ⟨la, e, wl⟩ := I.ld
  obtain ⟨as, kt, rfl, it, wl'⟩ := wl.last
  have ll := wl'.length
  have e' : h[kl]? = some (O.list (as.map .ref ++ [.ref kt])) := by rw [e]; simp
  refine ⟨_, h4, ⟨_, _, rfl, e⟩, _, _, ⟨e', by simp; lia⟩, ?_⟩
  exact k _ _ (Keep.set e) (I.setLeads wl')

theorem r_six' {pile pile' : List T} {leads : List WS} (I : RI h F FX ks kp kl pile leads) (hp : p ≤ F.length) (hz : pile.length ≤ 2 ^ 19) (hc : Close6 (leafP F 6 p) pile pile') {P : V → List O → Prop} (k : ∀ h', Keep h h' → RI h' F FX ks kp kl pile' leads → P .none h') : fLay [.ref kp, .ref ks, .int 6, .int p] h P := by
  obtain ⟨rest, five, suf, rfl, h1, h2, rfl⟩ := hc
  obtain ⟨vs, e, t⟩ := I.pl
  refine c_lay_6 (M := Mr kp kl) (at_starts hp I.sz) I.st e t (.inl rfl) I.lm hz h1 h2 fun h' vs' g e' t' => k h' (fun k o n ek => g.keep k o (fun q => ?_) ek) (I.setPile g e' t')
  rw [q, e] at ek
  cases ek
  exact n _ rfl
theorem back_loop {kw : Nat} {w : WS} {ls : List WS} {t : WS} {be : Nat} {fr : Bool} {mk : V} {af : Nat} (hb : be ≤ F.length) (ht : t.count = w.count ∧ t.b = w.b) (hls : ls.length ≤ 2 ^ 18) :
    ∀ (n : Nat) (pop : List WS) (pile pile' : List T) (h : List O), pop.length = n → n ≤ 2 ^ 18 → RI h F FX ks kp kl pile (ls ++ [t] ++ pop) → IsWs h kw w → (∀ x ∈ pop, ¬ (x.count = w.count ∧ x.b = w.b)) → Closes (leafP F 6 be) n pile pile' → pile.length ≤ 2 ^ 19 →
      (∀ h', RI h' F FX ks kp kl pile' (ls ++ [t]) → Q .next (Lr F ks x2 kp kl fr mk af be p u (some (.ref kw)) x12) h') →
      whileN wRead_t5 wRead_b4 (n + 1) (Lr F ks x2 kp kl fr mk af be p u (some (.ref kw)) x12) h Q := by
  intro n
  induction n with
  | zero =>
    intro pop pile pile' h hn _ I iw _ hc _ k
    have : pop = [] := List.length_eq_zero_iff.mp hn
    subst this
    rw [List.append_nil] at I
    refine t5_ok I iw rfl rfl ?_
    rw [decide_eq_true ht]
    cases hc
    exact k h I
  | succ n ih =>
    intro pop pile pile' h hn hn2 I iw hpop hc hz k
    obtain ⟨pop', x, rfl⟩ := snoc_of hn
    obtain ⟨q, c1, c2⟩ := hc
    rw [← List.append_assoc] at I
    refine t5_ok I iw rfl rfl ?_
    rw [decide_eq_false (hpop x (by simp))]
    have hl : pop'.length = n := by simpa using hn
    show wRead_b4 (Lr F ks x2 kp kl fr mk af be p u (some (.ref kw)) x12) h _
    unfold wRead_b4
    refine pop_leads I ?_ rfl fun h1 v K1 I1 => ?_
    · simp only [List.length_append, List.length_cons, List.length_nil]; lia
    refine ⟨_, rfl, _, rfl, _, rfl, ?_⟩
    refine r_six' I1 hb hz c1 fun h2 K2 I2 => ?_
    exact ih pop' q pile' h2 hl (by lia) I2 (iw.keep (K1.trans K2)) (fun y hy => hpop y (by simp [hy])) c2 (Nat.le_trans c1.len hz) k

theorem drop_at {F lead rest : List Nat} {p c : Nat} (e : F.drop p = lead ++ c :: rest) : F[p + lead.length]? = some c ∧ p + lead.length < F.length := by
  have h1 : (F.drop p)[lead.length]? = some c := by rw [e]; simp
  rw [List.getElem?_drop] at h1
  exact ⟨h1, (List.getElem?_eq_some_iff.mp h1).1⟩
theorem q2_head {s : RS} {lead rest : List Nat} {c : Nat} {R : ST} (hfr : s.fresh = true) (haf : s.after ≤ p) (e : F.drop p = lead ++ c :: rest) (hb : ∀ c ∈ lead, blank c) (hl : lead.length ≤ 1000) (hc : ¬ blank c) (hp : p ≤ F.length) (I : RI h F FX ks kp kl s.pile s.leads)
    (k : ∀ h' kw, RI h' F FX ks kp kl s.pile s.leads → IsWs h' kw (wsOf lead) → sSeq q2b sPass (Lr F ks x2 kp kl true (opV s.mark) (p + lead.length) (p + lead.length) p u (some (.ref kw)) x12) h' (fun o l1 h1 => match o with | .next => R l1 h1 Q | o => Q o l1 h1)) :
    sSeq q2 R (Lr F ks x2 kp kl s.fresh (opV s.mark) s.after s.begin p u x11 x12) h Q := by
  have hF := I.sz
  unfold q2
  refine ⟨_, rfl, ?_⟩
  show (match s.fresh with | true => _ | false => _)
  rw [hfr]
  refine ⟨_, rfl, _, rfl, ?_⟩
  show (match decide ((s.after : Int) ≤ (p : Int)) with | true => _ | false => _)
  rw [decide_eq_true (by lia : (s.after : Int) ≤ (p : Int))]
  refine ⟨_, rfl, _, rfl, by lia, ?_⟩
  rw [cut_drop F p hp]
  dsimp only [esNil]
  refine c_ws e hb ?_ hl fun h1 g1 iw => ?_
  · intro d hd
    simp only [List.head?_cons, Option.some.injEq] at hd
    rw [← hd]; exact hc
  obtain ⟨xs, ex, e1⟩ := iw.inst
  refine ⟨_, rfl, _, rfl, _, _, ⟨ex, e1⟩, ?_⟩
  have en : ((p : Int) + ((wsOf lead).n : Int)) = ((p + lead.length : Nat) : Int) := by rw [ws_n]; lia
  dsimp only [eInt, binW, binI]
  rw [en]
  refine ⟨_, rfl, ?_⟩
  exact k h1 _ (I.grow g1) iw

theorem at_str {F : List Nat} {i c : Nat} (h : F[i]? = some c) : at? F (i : Int) = some c := by
  unfold at?
  rw [if_pos (by lia), Int.toNat_natCast]; exact h
theorem less_yes {kw : Nat} {pile : List T} {ls : List WS} {t w : WS} {l : Loc} (I : RI h F FX ks kp kl pile (ls ++ [t])) (iw : IsWs h kw w) (h4 : l[4]? = some (some (.ref kl))) (h11 : l[11]? = some (some (.ref kw))) (S : SmallW t) (S' : SmallW w) (hn : t.n < w.n) (hnt : t.nt ≤ w.nt) (hi : ∀ ts, 1 ≤ ts → indentF t ts < indentF w ts)
    {P : V → List O → Prop} (k : ∀ h', Gr h h' → P (.bool true) h') : eMeth isInstV fLess (eIdx (eNm 4) (eNeg (eInt 1))) (esCons (eNm 11) esNil) l h P := by
  obtain ⟨la, e, wl⟩ := I.ld
  obtain ⟨as, kt, rfl, it, _⟩ := wl.last
  have e' : h[kl]? = some (O.list (as.map .ref ++ [.ref kt])) := by rw [e]; simp
  refine ⟨_, h4, _, _, ⟨.inl e', smn1, at_last _ _⟩, it.isV, _, h11, ?_⟩
  exact c_less_yes it iw S S' hn hnt hi k
theorem less_no {kw : Nat} {pile : List T} {ls : List WS} {t w : WS} {l : Loc} (I : RI h F FX ks kp kl pile (ls ++ [t])) (iw : IsWs h kw w) (h4 : l[4]? = some (some (.ref kl))) (h11 : l[11]? = some (some (.ref kw))) (hn : w.n ≤ t.n)
    {P : V → List O → Prop} (k : P (.bool false) h) : eMeth isInstV fLess (eIdx (eNm 4) (eNeg (eInt 1))) (esCons (eNm 11) esNil) l h P := by
  obtain ⟨la, e, wl⟩ := I.ld
  obtain ⟨as, kt, rfl, it, _⟩ := wl.last
  have e' : h[kl]? = some (O.list (as.map .ref ++ [.ref kt])) := by rw [e]; simp
  refine ⟨_, h4, _, _, ⟨.inl e', smn1, at_last _ _⟩, it.isV, _, h11, ?_⟩
  exact c_less_no it iw hn k

theorem r_leaf' {n : Int} {pile : List T} {leads : List WS} (I : RI h F FX ks kp kl pile leads) (hp : p ≤ F.length) (hz : pile.length ≤ 2 ^ 19) (h0 : n ≠ 0) (h4 : n ≠ 4) (h6 : n ≠ 6) {P : V → List O → Prop} (k : ∀ h', Keep h h' → RI h' F FX ks kp kl (pile ++ [leafP F n p]) leads → P .none h') : fLay [.ref kp, .ref ks, .int n, .int p] h P := by
  obtain ⟨vs, e, t⟩ := I.pl
  refine c_lay_leaf (M := Mr kp kl) (at_starts hp I.sz) I.st e t (.inl rfl) I.lm hz h0 h4 h6 fun h' vs' g e' t' => k h' (fun k o n ek => g.keep k o (fun q => ?_) ek) (I.setPile g e' t')
  rw [q, e] at ek
  cases ek
  exact n _ rfl

theorem fr_ok {s s' : RS} {R : ST} (H : FrS F p s s') (hz : s.pile.length ≤ 2 ^ 18) (hzl : s.leads.length ≤ 1000) (hp : p ≤ F.length) (I : RI h F FX ks kp kl s.pile s.leads)
    (k : ∀ h' x11 x12, RI h' F FX ks kp kl s'.pile s'.leads → R (Lr F ks x2 kp kl s'.fresh (opV s'.mark) s'.after s'.begin p u x11 x12) h' Q) :
    sSeq q2 R (Lr F ks x2 kp kl s.fresh (opV s.mark) s.after s.begin p u x11 x12) h Q := by
  have hF := I.sz
  cases H with
  | skip hs =>
    unfold q2
    refine ⟨_, rfl, ?_⟩
    show (match s.fresh with | true => _ | false => _)
    cases hfr : s.fresh with
    | false => rw [hfr] at k; exact k h _ _ I
    | true =>
      have ha : p < s.after := by
        rcases hs with h | h
        · rw [hfr] at h; cases h
        · exact h
      refine ⟨_, rfl, _, rfl, ?_⟩
      show (match decide ((s.after : Int) ≤ (p : Int)) with | true => _ | false => _)
      rw [decide_eq_false (by lia : ¬ (s.after : Int) ≤ (p : Int))]
      rw [hfr] at k
      exact k h _ _ I
  | @white lead rest hfr haf e hb hl =>
    refine q2_head hfr haf e hb hl (by rintro (q | q) <;> cases q) hp I fun h1 kw I1 iw => ?_
    obtain ⟨ec, elt⟩ := drop_at e
    unfold q2b
    refine ⟨_, rfl, _, rfl, _, ⟨by unfold small; lia, at_str ec⟩, ?_⟩
    refine ⟨_, rfl, _, rfl, _, rfl, ?_⟩
    refine r_leaf I1 (Nat.le_of_lt elt) (by lia) (by decide) (by decide) (by decide) fun h2 I2 => ?_
    obtain ⟨vs0, e2, t2⟩ := I2.pl
    obtain ⟨vs, v, rfl, t3, tv⟩ := t2.snoc
    have l3 := t3.length
    refine ⟨_, rfl, ⟨_, _, rfl, e2⟩, ?_⟩
    refine ⟨_, rfl, ⟨_, _, rfl, e2⟩, vs, v, ⟨e2, by lia⟩, by simp, ?_⟩
    have kpn : kp < h2.length := get_lt e2
    have e4 : (h2.set kp (O.list vs) ++ [O.list [.int 258, v]])[kp]? = some (O.list vs) := snoc_old (set_self e2)
    refine ⟨vs, ⟨e4, by lia⟩, ?_⟩
    refine ⟨_, rfl, ?_⟩
    have g : GrX (fun k => k = kp) h2 ((h2.set kp (O.list vs) ++ [O.list [.int 258, v]]).set kp (O.list (vs ++ [.ref (h2.set kp (O.list vs)).length]))) :=
      (GrX.trans (E := fun k => k = kp) (GrX.set (E := fun k => k = kp) (GrX.refl h2) (.inl rfl)) (GrX.of (Gr.snoc _ _))).set (.inl rfl)
    have gk : ∀ (k : Nat) (o : O), ¬ Mr kp kl k → h2[k]? = some o → ((h2.set kp (O.list vs) ++ [O.list [.int 258, v]]).set kp (O.list (vs ++ [.ref (h2.set kp (O.list vs)).length])))[k]? = some o := fun k o n e => g.keep k o (fun q => n (.inl q)) e
    have hlen : (h2.set kp (O.list vs)).length = h2.length := by simp
    have I3 := I2.setPile (pile' := s.pile ++ [.l [.i 258, leafP F 63 (p + lead.length)]]) g (set_self e4) ((t3.step gk fun _ _ q => q).append (.one (.l (fun q => ?_) ?_ (.cons (.i _) (.one (tv.step gk fun _ _ q => q))))))
    · have hk := k _ (some (.ref kw)) x12 I3
      dsimp only at hk
      rw [hfr] at hk
      exact hk
    · have := I2.lm _ q
      lia
    · have ne : kp ≠ (h2.set kp (O.list vs)).length := by lia
      rw [set_other ne]; exact snoc_get _ _
  | @deeper lead rest c ls t hfr haf e hb hl hc hc10 hls S S' hn hnt hi =>
    refine q2_head hfr haf e hb hl hc hp I fun h1 kw I1 iw => ?_
    obtain ⟨ec, elt⟩ := drop_at e
    unfold q2b
    refine ⟨_, rfl, _, rfl, _, ⟨by unfold small; lia, at_str ec⟩, ?_⟩
    show (match decide ([c] = [10]) with | true => _ | false => _)
    rw [decide_eq_false (by simp [hc10])]
    unfold q2a
    have I1' := I1
    rw [hls] at I1'
    refine less_yes I1' iw rfl rfl S S' hn hnt hi fun h2 g2 => ?_
    have I2 := I1.grow g2
    have iw2 := iw.gr g2
    obtain ⟨la, el, wl⟩ := I2.ld
    have ll := wl.length
    refine ⟨_, rfl, ⟨_, _, rfl, el⟩, ?_⟩
    refine ⟨_, rfl, _, ⟨el, by simp; lia⟩, ?_⟩
    have I3 := I2.setLeads (ls' := la ++ [kw]) (wl.append (.cons iw2 .nil))
    have K3 : Keep h2 (h2.set kl (O.list ((la ++ [kw]).map .ref))) := Keep.set el
    have iw3 := iw2.keep K3
    have em : la.map V.ref ++ [V.ref kw] = (la ++ [kw]).map V.ref := by simp
    rw [em]
    refine ⟨_, rfl, _, rfl, _, rfl, ?_⟩
    refine r_leaf' I3 hp (by lia) (by decide) (by decide) (by decide) fun h4 K4 I4 => ?_
    refine ⟨1, ?_⟩
    refine t5_ok I4 (iw3.keep K4) rfl rfl ?_
    rw [decide_eq_true ⟨rfl, rfl⟩]
    exact k h4 _ _ I4
  | @back lead rest c ls pop t t0 ini pile' lz hfr haf e hb hl hc hc10 hls hls2 hn ht hpop hcl =>
    refine q2_head hfr haf e hb hl hc hp I fun h1 kw I1 iw => ?_
    obtain ⟨ec, elt⟩ := drop_at e
    unfold q2b
    refine ⟨_, rfl, _, rfl, _, ⟨by unfold small; lia, at_str ec⟩, ?_⟩
    show (match decide ([c] = [10]) with | true => _ | false => _)
    rw [decide_eq_false (by simp [hc10])]
    unfold q2a
    have I1' := I1
    rw [hls2] at I1'
    refine less_no I1' iw rfl rfl hn ?_
    refine ⟨pop.length + 1, ?_⟩
    have I1'' := I1
    rw [hls] at I1'' hzl
    simp only [List.length_append, List.length_cons, List.length_nil] at hzl
    exact back_loop (Nat.le_of_lt elt) ht (by lia) pop.length pop s.pile pile' h1 rfl (by lia) I1'' iw hpop hcl (by lia) fun h' I' => k h' _ _ I'
end
end Mine
end

noncomputable section -- L4e
open PySem PySem.W PySem.Calls PyProof.Rows
set_option maxRecDepth 100000
set_option autoImplicit false
namespace Mine

theorem Closes.len {six : T} : ∀ {n : Nat} {p q : List T}, Closes six n p q → q.length ≤ p.length
  | 0, _, _, h => by cases h; exact Nat.le_refl _
  | _ + 1, _, _, ⟨_, h1, h2⟩ => Nat.le_trans (Closes.len h2) h1.len
theorem FrS.len {F : List Nat} {p : Nat} {s s' : RS} (h : FrS F p s s') : s'.pile.length ≤ s.pile.length + 1 ∧ s'.mark = s.mark := by
  cases h with
  | skip _ => exact ⟨by lia, rfl⟩
  | white => exact ⟨by simp, rfl⟩
  | deeper => exact ⟨by simp, rfl⟩
  | back _ _ _ _ _ _ _ _ _ _ _ _ hc => exact ⟨Nat.le_succ_of_le hc.len, rfl⟩
noncomputable def Steps (F : List Nat) : List (Nat × List Nat) → RS → RS → Prop
  | [], s, s' => s = s'
  | q :: r, s, s' => (s.pile.length ≤ 2 ^ 18 ∧ s.leads.length ≤ 1000 ∧ q.1 ≤ F.length) ∧ ∃ s1, St F q.1 q.2 s s1 ∧ Steps F r s1 s'
theorem Steps.append {F : List Nat} : ∀ {a b : List (Nat × List Nat)} {s s1 s2 : RS}, Steps F a s s1 → Steps F b s1 s2 → Steps F (a ++ b) s s2
  | [], _, _, _, _, h, g => by cases h; exact g
  | _ :: _, _, _, _, _, ⟨h1, s3, h2, h3⟩, g => ⟨h1, s3, h2, h3.append g⟩

section
variable {h : List O} {F : List Nat} {FX : List (Nat × O)} {ks kp kl : Nat} {p : Nat} {u : List Nat} {Q : Out → Loc → List O → Prop} {x2 x11 x12 : Option V}
theorem st_ok {s s' : RS} (H : St F p u s s') (hz : s.pile.length ≤ 2 ^ 18) (hzl : s.leads.length ≤ 1000) (hp : p ≤ F.length) (I : RI h F FX ks kp kl s.pile s.leads)
    (k : ∀ h' o x11 x12, (o = .next ∨ o = .cont) → RI h' F FX ks kp kl s'.pile s'.leads → Q o (Lr F ks x2 kp kl s'.fresh (opV s'.mark) s'.after s'.begin p u x11 x12) h') :
    wRead_b6 (Lr F ks x2 kp kl s.fresh (opV s.mark) s.after s.begin p u x11 x12) h Q := by
  rw [b6_chunks]
  cases H with
  | inn hm hu =>
    rw [hm] at k ⊢
    refine seq_of ?_
    unfold q1
    refine ⟨_, rfl, ?_⟩
    refine ⟨_, rfl, ?_⟩
    show (match decide (u = [34]) with | true => _ | false => _)
    rw [decide_eq_false hu]
    exact k h .cont _ _ (.inr rfl) I
  | out hm hu hml =>
    subst hu
    rw [hm]
    refine seq_of ?_
    unfold q1
    refine ⟨_, rfl, ?_⟩
    refine ⟨_, rfl, ?_⟩
    refine ⟨_, rfl, _, rfl, _, rfl, ?_⟩
    refine r_leaf I hml (by lia) (by decide) (by decide) (by decide) fun h2 I2 => ?_
    exact k h2 .cont _ _ (.inr rfl) I2
  | go hm hf hu =>
    have e : opV s.mark = V.none := by rw [hm]; rfl
    refine seq_of ?_
    unfold q1
    rw [e]
    refine ⟨_, rfl, ?_⟩
    show sSeq q2 (sSeq q3 (sSeq q4 sPass)) (Lr F ks x2 kp kl s.fresh .none s.after s.begin p u x11 x12) h Q
    rw [← e]
    obtain ⟨l1, l2⟩ := hf.len
    refine fr_ok hf hz hzl hp I fun h1 y11 y12 I1 => ?_
    exact un_ok hu (by rw [l2, hm]) (by lia) hp I1 k

theorem read_loop {items : List (Nat × List Nat)} {kt h0 : Nat} (ht : (kt, O.list (refsOf h0 items.length)) ∈ FX) (hi : ∀ (i : Nat) (q : Nat × List Nat), items[i]? = some q → (h0 + i, O.tup [.int q.1, .str q.2]) ∈ FX) :
    ∀ (rest : List (Nat × List Nat)) (i : Nat) (s s' : RS) (h : List O) (a9 a10 x11 x12 : Option V), items.drop i = rest → Steps F rest s s' → RI h F FX ks kp kl s.pile s.leads →
      (∀ h' a9 a10 x11 x12, RI h' F FX ks kp kl s'.pile s'.leads → Q .next [some (.str F), some (.ref ks), x2, some (.ref kp), some (.ref kl), some (.bool s'.fresh), some (opV s'.mark), some (.int s'.after), some (.int s'.begin), a9, a10, x11, x12] h') →
      forN (nxL kt) (tPair 9 10) wRead_b6 (rest.length + 1) i [some (.str F), some (.ref ks), x2, some (.ref kp), some (.ref kl), some (.bool s.fresh), some (opV s.mark), some (.int s.after), some (.int s.begin), a9, a10, x11, x12] h Q := by
  intro rest
  induction rest with
  | nil =>
    intro i s s' h a9 a10 x11 x12 hd hs I k
    cases hs
    have hl : items.length ≤ i := by
      have := congrArg List.length hd
      simp at this; lia
    refine ⟨none, ⟨_, (I.fx _ ht).1, ?_⟩, ?_⟩
    · unfold refsOf
      rw [List.getElem?_eq_none (by simp; lia)]
    · exact k h _ _ _ _ I
  | cons q rest ih =>
    intro i s s' h a9 a10 x11 x12 hd hs I k
    obtain ⟨⟨z1, z2, z3⟩, s1, h1, h2⟩ := hs
    have hq : items[i]? = some q := by
      have : (items.drop i)[0]? = some q := by rw [hd]; rfl
      rw [List.getElem?_drop] at this; exact this
    have hil := (List.getElem?_eq_some_iff.mp hq).1
    have hd2 : items.drop (i + 1) = rest := by
      rw [← List.drop_drop, hd]; rfl
    refine ⟨some (.ref (h0 + i)), ⟨_, (I.fx _ ht).1, ?_⟩, ?_⟩
    · unfold refsOf
      rw [List.getElem?_map, List.getElem?_range hil]; rfl
    refine ⟨_, _, .inl (I.fx _ (hi i q hq)).1, ?_⟩
    show wRead_b6 (Lr F ks x2 kp kl s.fresh (opV s.mark) s.after s.begin q.1 q.2 x11 x12) h _
    refine st_ok h1 z1 z2 z3 I fun h' o y11 y12 ho I' => ?_
    have step := ih (i + 1) s1 s' h' (some (.int q.1)) (some (.str q.2)) y11 y12 hd2 h2 I' k
    rcases ho with rfl | rfl
    · exact step
    · exact step

theorem starts_loop {kr : Nat} {F' : List Nat} {rows : List (List Nat)} {ks' : Nat} (hne : kr ≠ ks') {x3 x4 x5 x6 x7 x8 x9 x10 x11 x12 : Option V} :
    ∀ (rest : List (List Nat)) (pre : List (List Nat)) (h : List O) (st : List Nat) (a : Nat) (x2 : Option V), rows = pre ++ rest → (∀ r ∈ rest, r.length ≤ 2 ^ 20) → h[kr]? = some (O.list (rows.map .str)) → h[ks']? = some (O.list (vis (st ++ [a]))) → st.length + rest.length ≤ 2 ^ 19 →
      (∀ h' x2, h'.length = h.length → (∀ k o, k ≠ ks' → h[k]? = some o → h'[k]? = some o) → h'[ks']? = some (O.list (vis (st ++ [a] ++ startsG a rest))) → Q .next [some (.str F'), some (.ref ks'), x2, x3, x4, x5, x6, x7, x8, x9, x10, x11, x12] h') →
      forN (nxL kr) (tNm 2) wRead_b7 (rest.length + 1) pre.length [some (.str F'), some (.ref ks'), x2, x3, x4, x5, x6, x7, x8, x9, x10, x11, x12] h Q := by
  intro rest
  induction rest with
  | nil =>
    intro pre h st a x2 hr _ er es _ k
    refine ⟨none, ⟨_, er, by rw [hr]; simp⟩, ?_⟩
    exact k h x2 rfl (fun _ _ _ e => e) (by simpa [startsG] using es)
  | cons r rest ih =>
    intro pre h st a x2 hr hl er es hz k
    rw [List.length_cons] at hz
    refine ⟨some (.str r), ⟨_, er, by rw [hr]; simp⟩, ?_⟩
    show wRead_b7 [some (.str F'), some (.ref ks'), some (.str r), x3, x4, x5, x6, x7, x8, x9, x10, x11, x12] h _
    unfold wRead_b7
    have e1 : vis (st ++ [a]) = vis st ++ [V.int (a : Int)] := by unfold vis; simp
    have hlr := hl r (.head _)
    have hsm : small (a : Int) ∨ True := .inr trivial
    refine ⟨_, rfl, ⟨_, _, rfl, es⟩, ?_⟩
    rw [e1] at es
    refine ⟨_, rfl, _, _, ⟨.inl es, smn1, at_last _ _⟩, _, rfl, by lia, ?_⟩
    refine ⟨_, ⟨es, by simp [vis_len]; lia⟩, ?_⟩
    have e2 : vis st ++ [V.int (a : Int)] ++ [V.int ((a : Int) + (r.length : Int) + 1)] = vis (st ++ [a] ++ [a + r.length + 1]) := by unfold vis; simp
    rw [e2]
    have el : pre.length + 1 = (pre ++ [r]).length := by simp
    show forN (nxL kr) (tNm 2) wRead_b7 (rest.length + 1) (pre.length + 1) [some (.str F'), some (.ref ks'), some (.str r), x3, x4, x5, x6, x7, x8, x9, x10, x11, x12] _ Q
    rw [el]
    refine ih (pre ++ [r]) _ (st ++ [a]) (a + r.length + 1) _ (by rw [hr]; simp) (fun y hy => hl y (.tail _ hy)) (by rw [set_other (Ne.symm hne)]; exact er) (set_self es) (by simp; lia) fun h' x2' l' k' e' => ?_
    refine k h' x2' (by rw [l', List.length_set]) (fun j o hj ej => k' j o hj (by rw [set_other (Ne.symm hj)]; exact ej)) ?_
    rw [e', startsG]
    simp
end
end Mine
end

noncomputable section -- L4f
open PySem PySem.W PySem.Calls PyProof.Rows
set_option maxRecDepth 100000
set_option autoImplicit false
namespace Mine

noncomputable def fxOf (H : List O) (kp kl : Nat) : List (Nat × O) := (List.range H.length).filterMap fun k => if k = kp ∨ k = kl then none else (H[k]?).map (k, ·)
theorem fx_mem {H : List O} {kp kl k : Nat} {o : O} (e : H[k]? = some o) (n1 : k ≠ kp) (n2 : k ≠ kl) : (k, o) ∈ fxOf H kp kl := by
  refine List.mem_filterMap.mpr ⟨k, List.mem_range.mpr (get_lt e), ?_⟩
  rw [if_neg (by rintro (q | q) <;> contradiction), e]; rfl
theorem fx_all {H : List O} {kp kl : Nat} : ∀ e ∈ fxOf H kp kl, H[e.1]? = some e.2 ∧ ¬ Mr kp kl e.1 := by
  intro e he
  obtain ⟨k, _, h2⟩ := List.mem_filterMap.mp he
  split at h2
  · cases h2
  · rename_i hn
    cases ho : H[k]? with
    | none => rw [ho] at h2; cases h2
    | some o =>
      rw [ho] at h2
      cases h2
      exact ⟨ho, hn⟩
section
variable {h : List O} {F : List Nat} {FX : List (Nat × O)} {ks kp kl : Nat} {Q : Out → Loc → List O → Prop}
theorem end_loop {l : Loc} (h0 : l[0]? = some (some (.str F))) (h1 : l[1]? = some (some (.ref ks))) (h3 : l[3]? = some (some (.ref kp))) (h4 : l[4]? = some (some (.ref kl))) :
    ∀ (n : Nat) (leads : List WS) (pile pile' : List T) (h : List O), leads.length = n + 1 → n ≤ 2 ^ 18 → RI h F FX ks kp kl pile leads → Closes (leafP F 6 F.length) n pile pile' → pile.length ≤ 2 ^ 19 →
      (∀ h' leads', RI h' F FX ks kp kl pile' leads' → Q .next l h') → whileN wRead_t1 wRead_b0 (n + 1) l h Q := by
  intro n
  induction n with
  | zero =>
    intro leads pile pile' h hn _ I hc _ k
    cases hc
    obtain ⟨ls, e, w⟩ := I.ld
    have ll := w.length
    refine ⟨_, h4, _, ⟨.inl e, by simp; lia⟩, ?_⟩
    show (match decide ((1 : Int) < ((ls.map V.ref).length : Int)) with | false => _ | true => _)
    rw [decide_eq_false (by simp; lia)]
    exact k h _ I
  | succ n ih =>
    intro leads pile pile' h hn hn2 I hc hz k
    obtain ⟨leads', x, rfl⟩ := snoc_of hn
    obtain ⟨q, c1, c2⟩ := hc
    obtain ⟨ls, e, w⟩ := I.ld
    have ll := w.length
    simp only [List.length_append, List.length_cons, List.length_nil] at hn ll
    have hF := I.sz
    refine ⟨_, h4, _, ⟨.inl e, by simp; lia⟩, ?_⟩
    show (match decide ((1 : Int) < ((ls.map V.ref).length : Int)) with | false => _ | true => _)
    rw [decide_eq_true (by simp; lia)]
    show wRead_b0 l h _
    unfold wRead_b0
    refine pop_leads I (by lia) h4 fun h1' v K1 I1 => ?_
    refine ⟨_, h3, _, h1, _, h0, by lia, ?_⟩
    refine r_six' I1 (Nat.le_refl _) hz c1 fun h2 K2 I2 => ?_
    exact ih leads' q pile' h2 (by lia) (by lia) I2 c2 (Nat.le_trans c1.len hz) k

noncomputable def rs0 : RS := ⟨[], [ws0], true, none, 0, 0⟩
theorem posG_le : ∀ (r : List Nat) (i y : Nat), y ∈ posG i r → y ≤ i + r.length + 1
  | [], i, y, h => by
    simp only [posG, List.mem_singleton] at h
    simp; lia
  | c :: r, i, y, h => by
    rw [posG] at h
    simp only [List.length_cons]
    split at h
    · rcases List.mem_cons.mp h with h | h
      · lia
      · have := posG_le r (i + 1) y h; lia
    · have := posG_le r (i + 1) y h; lia
theorem startsG_len : ∀ (rs : List (List Nat)) (a : Nat), (startsG a rs).length = rs.length
  | [], _ => rfl
  | r :: rs, a => by rw [startsG, List.length_cons, List.length_cons, startsG_len rs]
theorem startsG_big : ∀ (rs : List (List Nat)) (a : Nat) (r : List Nat), r ∈ rs → ∃ y ∈ startsG a rs, r.length < y
  | x :: rs, a, r, h => by
    rw [startsG]
    rcases List.mem_cons.mp h with rfl | h
    · exact ⟨_, .head _, by lia⟩
    · obtain ⟨y, h1, h2⟩ := startsG_big rs (a + x.length + 1) r h
      exact ⟨y, .tail _ h1, h2⟩
theorem split_sizes (F : List Nat) : (splitF F [10]).length ≤ F.length + 1 ∧ ∀ r ∈ splitF F [10], r.length ≤ F.length := by
  have e := starts_split F 0
  constructor
  · have := congrArg List.length e
    rw [startsG_len] at this
    have := posG_len F 0
    lia
  · intro r hr
    obtain ⟨y, h1, h2⟩ := startsG_big _ 0 r hr
    rw [e] at h1
    have := posG_le F 0 y h1
    lia
theorem esc_places : ∀ (r : List Nat) (i : Nat) (e : Bool), escEnd e r = false → ∀ q ∈ escGo i e r, q.1 ≤ i + r.length
  | [], i, e, h, q, hq => by
    cases e with
    | true => cases h
    | false => cases hq
  | c :: r, i, true, h, q, hq => by
    rw [escGo] at hq
    rw [escEnd] at h
    rcases List.mem_cons.mp hq with rfl | hq
    · simp
    · have := esc_places r (i + 1) false h q hq
      simp only [List.length_cons]; lia
  | c :: r, i, false, h, q, hq => by
    rw [escGo] at hq
    rw [escEnd] at h
    by_cases hc : c = 92
    · rw [if_pos hc] at hq
      rw [decide_eq_true hc] at h
      have := esc_places r (i + 1) true h q hq
      simp only [List.length_cons]; lia
    · rw [if_neg hc] at hq
      rw [decide_eq_false hc] at h
      rcases List.mem_cons.mp hq with rfl | hq
      · simp
      · have := esc_places r (i + 1) false h q hq
        simp only [List.length_cons]; lia
noncomputable def rEnd : ST := sSeq (sWhile wRead_t1 wRead_b0) (sSeq (sExp (eApp fLay (esCons (eNm 3) (esCons (eNm 1) (esCons (eInt 0) (esCons (eApp bLen (esCons (eNm 0) esNil)) esNil)))))) (sSeq (sRet (eNm 3)) sPass))
theorem rEnd_ok {s' : RS} {pile' : List T} {m : Nat} {l : Loc} (I : RI h F FX ks kp kl s'.pile s'.leads) (hl : s'.leads.length = m + 1) (hm : m ≤ 1000) (hz : s'.pile.length ≤ 2 ^ 18) (hc : Closes (leafP F 6 F.length) m s'.pile pile') (hd : depTs pile' ≤ 60)
    (h0 : l[0]? = some (some (.str F))) (h1 : l[1]? = some (some (.ref ks))) (h3 : l[3]? = some (some (.ref kp))) (h4 : l[4]? = some (some (.ref kl)))
    (k : ∀ h' leads', RI h' F FX ks kp kl [.l (.i 259 :: (pile' ++ [leafP F 0 F.length]))] leads' → Q (.ret (.ref kp)) l h') : rEnd l h Q := by
  have hF := I.sz
  unfold rEnd
  refine seq_of ⟨m + 1, ?_⟩
  refine end_loop h0 h1 h3 h4 m s'.leads s'.pile pile' h hl (by lia) I hc (by lia) fun h2 leads2 I2 => ?_
  have hz2 := hc.len
  refine ⟨_, h3, _, h1, _, h0, by lia, ?_⟩
  refine r_zero I2 (Nat.le_refl _) (by lia) hd fun h3' I3 => ?_
  refine ⟨_, h3, ?_⟩
  exact k h3' leads2 I3
theorem first_ws {l : Loc} {P : V → List O → Prop} (k : ∀ h2, Gr h h2 → IsWs h2 h.length ws0 → P (.ref h2.length) (h2 ++ [O.list [.ref h.length]])) : eList (esCons (eApp (wsNew fInit) (esCons (eStr []) esNil)) esNil) l h P := by
  dsimp only [eList, esCons, eApp, eStr, esNil]
  refine c_ws (lead := []) (rest := []) rfl (by simp) (by simp) (by simp) fun h2 g2 iw => ?_
  exact ⟨by simp, k h2 g2 iw⟩
theorem c_read {s' : RS} {pile' : List T} {m : Nat} (hF : F.length ≤ 2 ^ 15) (he : escEnd false F = false) (hs : Steps F (escGo 0 false F) rs0 s') (hl : s'.leads.length = m + 1) (hm : m ≤ 1000) (hz : s'.pile.length ≤ 2 ^ 18) (hc : Closes (leafP F 6 F.length) m s'.pile pile') (hd : depTs pile' ≤ 60) {P : V → List O → Prop}
    (k : ∀ h' kr, (∀ (k : Nat) (o : O), h[k]? = some o → h'[k]? = some o) → TV h' (fun _ => False) (.ref kr) (.l [.l (.i 259 :: (pile' ++ [leafP F 0 F.length]))]) → P (.ref kr) h') : fRead [.str F] h P := by
  obtain ⟨sz1, sz2⟩ := split_sizes F
  unfold fRead defW wRead
  refine ⟨_, rfl, ?_⟩
  refine ⟨by simp, ?_⟩
  refine ⟨_, rfl, ⟨_, rfl⟩, ⟨by lia, by decide⟩, ?_⟩
  have e0 : (h ++ [O.list [V.int 0]])[h.length]? = some (O.list (vis ([] ++ [0]))) := snoc_get _ _
  have e1 : (h ++ [O.list [V.int 0]] ++ [O.list ((splitF F [10]).map .str)])[h.length]? = some (O.list (vis ([] ++ [0]))) := snoc_old e0
  have er := snoc_get (h ++ [O.list [V.int 0]]) (O.list ((splitF F [10]).map .str))
  refine ⟨⟨_, er⟩, (splitF F [10]).length + 1, ?_⟩
  refine starts_loop (rows := splitF F [10]) (by simp) (splitF F [10]) [] _ [] 0 none rfl (fun r hr => by have := sz2 r hr; lia) er e1 (by simp; lia) fun h1 x2 l1 k1 es1 => ?_
  rw [starts_split] at es1
  have es1' : h1[h.length]? = some (O.list (vis (startsF F))) := es1
  simp only [List.length_append, List.length_cons, List.length_nil] at l1
  refine ⟨by simp, ?_⟩
  have e3 := snoc_get h1 (O.list [])
  -- the first Whitespace
  refine seq_of (first_ws fun h2 g2 iw => ?_)
  have g3 : Gr h1 (h2 ++ [O.list [V.ref (h1 ++ [O.list []]).length]]) := ((Gr.snoc h1 (O.list [])).trans g2).trans (Gr.snoc _ _)
  have ew : (h2 ++ [O.list [V.ref (h1 ++ [O.list []]).length]])[h1.length]? = some (O.list []) := (g2.trans (Gr.snoc _ _)).get e3
  have l2 := g2.len
  simp only [List.length_append, List.length_cons, List.length_nil] at l2
  have el := snoc_get h2 (O.list [V.ref (h1 ++ [O.list []]).length])
  have iw' : IsWs (h2 ++ [O.list [V.ref (h1 ++ [O.list []]).length]]) (h1 ++ [O.list []]).length ws0 := iw.gr (Gr.snoc _ _)
  generalize (h2 ++ [O.list [V.ref (h1 ++ [O.list []]).length]]) = H at g3 ew el iw' ⊢
  refine ⟨_, rfl, ⟨he, ?_⟩, ?_⟩
  · have := escGo_len F 0 false he
    lia
  generalize hit : escGo 0 false F = items at hs ⊢
  have gH := (Gr.snoc (H ++ tupsOf items) (O.list (refsOf H.length items.length)))
  have gT : Gr H (H ++ tupsOf items ++ [O.list (refsOf H.length items.length)]) := Gr.trans ⟨_, rfl⟩ gH
  have ekt : (H ++ tupsOf items ++ [O.list (refsOf H.length items.length)])[H.length + items.length]? = some (O.list (refsOf H.length items.length)) := by
    have : (H ++ tupsOf items).length = H.length + items.length := by simp [tupsOf]
    rw [← this]; exact snoc_get _ _
  have etup : ∀ (i : Nat) (q : Nat × List Nat), items[i]? = some q → (H ++ tupsOf items ++ [O.list (refsOf H.length items.length)])[H.length + i]? = some (O.tup [.int q.1, .str q.2]) := fun i q hq => by
    refine gH.get ?_
    rw [app_get]
    unfold tupsOf
    rw [List.getElem?_map, hq]; rfl
  have hkl := get_lt el
  have hkp := get_lt ew
  have old : ∀ (k : Nat) (o : O), h[k]? = some o → H[k]? = some o := fun k o e => g3.get (k1 k o (by have := get_lt e; lia) (snoc_old (snoc_old e)))
  generalize (H ++ tupsOf items ++ [O.list (refsOf H.length items.length)]) = H2 at gT ekt etup ⊢
  have I : RI H2 F (fxOf H2 h1.length h2.length) h.length h1.length h2.length rs0.pile rs0.leads := by
    refine ⟨gT.get (g3.get es1'), ⟨[], gT.get ew, .nil⟩, ⟨[(h1 ++ [O.list []]).length], gT.get el, .cons (iw'.gr gT) .nil⟩, by lia, by lia, by lia, hF, fx_all⟩
  refine ⟨⟨_, ekt⟩, items.length + 1, ?_⟩
  refine read_loop (items := items) (h0 := H.length) (fx_mem ekt (by lia) (by lia)) (fun i q hq => fx_mem (etup i q hq) (by lia) (by lia)) items 0 rs0 s' H2 none none none none rfl hs I fun h3 a9 a10 x11 x12 I3 => ?_
  show rEnd [some (.str F), some (.ref h.length), x2, some (.ref h1.length), some (.ref h2.length), some (.bool s'.fresh), some (opV s'.mark), some (.int s'.after), some (.int s'.begin), a9, a10, x11, x12] h3 _
  refine rEnd_ok I3 hl hm hz hc hd rfl rfl rfl rfl fun h4 leads4 I4 => ?_
  obtain ⟨vs, e4, t4⟩ := I4.pl
  refine k h4 _ (fun k o e => ?_) (.l (fun q => q) e4 (t4.step (fun _ _ _ e => e) fun _ _ q => q.elim))
  have hk := get_lt e
  exact (I4.fx _ (fx_mem (gT.get (old k o e)) (by lia) (by lia))).1
end
end Mine
end

noncomputable section -- L5a
open PySem PySem.W PySem.Calls PyProof.Rows
set_option maxRecDepth 100000
set_option autoImplicit false
namespace Mine

/-! a statement's units, scanned by themselves -/
noncomputable def scan (S : List Nat) : List (Nat × List Nat) → Option Nat → Nat → Option (List (Int × Nat))
  | [], _, _ => none
  | (o, u) :: r, some m, af => if u = [34] then (scan S r none af).map ((3, m) :: ·) else scan S r (some m) af
  | (o, u) :: r, none, af =>
    if o < af then scan S r none af
    else if u = [34] then scan S r (some o) af
    else if u = [10] then
      if escEnd false (S.take o) = false ∧ escEnd false (stripF (S.take o)) = false ∧ o < S.length then
        match checkF (S.take o) with
        | some true => if r = [] ∧ o + 1 = S.length then some [(4, o)] else none
        | some false => (scan S r none af).map ((63, o) :: ·)
        | none => none
      else none
    else if u = [97] ∨ u = [98] then (scan S r none af).map ((1, o) :: ·)
    else if u = [32] ∨ u = [9] ∨ u = [92, 10] then scan S r none af
    else if 10 ∈ S.drop o then
      match tabF ((S.drop o).take (munch (S.drop o))) with
      | some n => if n ≠ 0 ∧ n ≠ 4 ∧ n ≠ 6 ∧ n ≠ 5 ∧ n < 256 then (scan S r none (o + munch (S.drop o))).map ((n, o) :: ·) else none
      | none => none
    else none
noncomputable def offsOf : Nat → List (Int × List Nat) → List (Int × Nat)
  | _, [] => []
  | o, (n, sg) :: r => if 0 < n then (n, o) :: offsOf (o + sg.length) r else offsOf (o + sg.length) r

theorem lookup_no {x : List Nat} : ∀ (l : List (List Nat × Int)), (∀ p ∈ l, p.1 ≠ x) → l.lookup x = none
  | [], _ => rfl
  | (a, b) :: r, h => by
    rw [List.lookup_cons]
    have h1 : (x == a) = false := by
      have := h (a, b) (.head _)
      simpa using fun q => this q.symm
    rw [h1]
    exact lookup_no r fun p hp => h p (.tail _ hp)
theorem tab_keys10 : ∀ p ∈ tabL, 10 ∉ p.1 := by decide +kernel
theorem tab_no {x : List Nat} (h : 10 ∈ x) : tabF x = none := lookup_no _ fun p hp q => tab_keys10 p hp (q ▸ h)
theorem tab_more {w : List Nat} (h : 10 ∈ w) (r : List Nat) (j : Nat) : tabF ((w ++ r).take j) = tabF (w.take j) := by
  by_cases hj : j ≤ w.length
  · rw [List.take_append_of_le_length hj]
  · rw [List.take_of_length_le (l := w) (by lia), tab_no h, tab_no]
    rw [List.take_append, List.take_of_length_le (l := w) (by lia)]
    exact List.mem_append_left _ h
theorem munch_more {w : List Nat} (h : 10 ∈ w) (r : List Nat) : munch (w ++ r) = munch w := by
  unfold munch
  rw [tab_more h, tab_more h]

section
variable {F S rest : List Nat} {b : Nat}
noncomputable def shift (b : Nat) (us : List (Nat × List Nat)) : List (Nat × List Nat) := us.map fun q => (b + q.1, q.2)
noncomputable def leafB (F : List Nat) (b : Nat) (q : Int × Nat) : T := leafP F q.1 (b + q.2)
theorem leafB_tag {n : Int} {o : Nat} (h : n ≠ 5 ∧ n < 256) : Tagged (fun n => n ≠ 5 ∧ n < 256) (leafB F b (n, o)) := h
theorem leaf_dep (n : Int) (r c : Nat) : depT (leafT n r c) = 1 := by
  unfold leafT
  simp [depT, depTs]
theorem depTs_snoc (a : List T) (n : Int) (p : Nat) (h : depTs a ≤ 45) : depTs (a ++ [leafP F n p]) ≤ 45 := by
  rw [depTs_append]
  have : depTs [leafP F n p] = 1 := by
    unfold leafP
    rw [depTs, leaf_dep]; rfl
  lia
theorem scan_steps (hF : F.drop b = S ++ rest) (hb : b ≤ F.length) (hS : S.length ≤ 1000) {base : List T} (hst : Stop base) {leads : List WS} (hl : leads.length ≤ 1000) :
    ∀ (us : List (Nat × List Nat)) (mark : Option Nat) (af : Nat) (lv : List (Int × Nat)) (sofar : List T), scan S us mark af = some lv → (∀ q ∈ us, q.1 ≤ S.length) → (∀ m, mark = some m → m ≤ S.length) → (∀ t ∈ sofar, Tagged (fun n => n ≠ 5 ∧ n < 256) t) → base.length + sofar.length + us.length ≤ 2 ^ 17 → depTs (base ++ sofar) ≤ 45 →
      Steps F (shift b us) ⟨base ++ sofar, leads, false, mark.map (b + ·), b + af, b⟩ ⟨base ++ [.l (.i 256 :: (sofar ++ lv.map (leafB F b)))], leads, true, none, b + S.length, b⟩ := by
  have hlen : F.length = b + (S.length + rest.length) := by
    have := congrArg List.length hF
    simp only [List.length_drop, List.length_append] at this
    lia
  have hcut : ∀ o, o ≤ S.length → cut F (some ((b : Nat) : Int)) (some ((b + o : Nat) : Int)) = S.take o := fun o ho => by
    have := cut_sub F b o hb
    rw [show ((b + o : Nat) : Int) = (b : Int) + (o : Int) by lia, this, hF, List.take_append_of_le_length ho]
  intro us
  induction us with
  | nil => intro mark af lv sofar h; cases mark <;> cases h
  | cons q us ih =>
    intro mark af lv sofar h hq hmk htag hz hd
    obtain ⟨o, u⟩ := q
    have ho : o ≤ S.length := hq (o, u) (.head _)
    have hq' : ∀ q ∈ us, q.1 ≤ S.length := fun q h => hq q (.tail _ h)
    rw [List.length_cons] at hz
    have Z : (base ++ sofar).length ≤ 2 ^ 18 ∧ leads.length ≤ 1000 ∧ b + o ≤ F.length := ⟨by rw [List.length_append]; lia, hl, by lia⟩
    have e0 : shift b ((o, u) :: us) = (b + o, u) :: shift b us := rfl
    rw [e0]
    refine ⟨Z, ?_⟩
    show ∃ s1, St F (b + o) u _ s1 ∧ _
    cases mark with
    | some m =>
      have hm := hmk m rfl
      rw [scan] at h
      by_cases hu : u = [34]
      · rw [if_pos hu] at h
        obtain ⟨lv', h', rfl⟩ := Option.map_eq_some_iff.mp h
        refine ⟨_, .out rfl hu (show b + m ≤ F.length by lia), ?_⟩
        have := ih none af lv' (sofar ++ [leafP F 3 (b + m)]) h' hq' (by intro m h; cases h) ?_ (by simp; lia) (by rw [← List.append_assoc]; exact depTs_snoc _ _ _ hd)
        · simpa [leafB] using this
        · intro t ht
          rcases List.mem_append.mp ht with ht | ht
          · exact htag t ht
          · rw [List.mem_singleton.mp ht]; exact ⟨by decide, by decide⟩
      · rw [if_neg hu] at h
        exact ⟨_, .inn rfl hu, ih (some m) af lv sofar h hq' hmk htag (by lia) hd⟩
    | none =>
      have skipF : FrS F (b + o) ⟨base ++ sofar, leads, false, (none : Option Nat).map (b + ·), b + af, b⟩ ⟨base ++ sofar, leads, false, (none : Option Nat).map (b + ·), b + af, b⟩ := .skip (.inl rfl)
      have leafStep : ∀ (n : Int) (af' : Nat) (lv' : List (Int × Nat)), (n ≠ 5 ∧ n < 256) → scan S us none af' = some lv' → Steps F (shift b us) ⟨base ++ sofar ++ [leafP F n (b + o)], leads, false, none, b + af', b⟩ ⟨base ++ [.l (.i 256 :: (sofar ++ ((n, o) :: lv').map (leafB F b)))], leads, true, none, b + S.length, b⟩ := by
        intro n af' lv' hn h'
        have := ih none af' lv' (sofar ++ [leafP F n (b + o)]) h' hq' (by intro m h; cases h) ?_ (by simp; lia) (by rw [← List.append_assoc]; exact depTs_snoc _ _ _ hd)
        · simpa [leafB] using this
        · intro t ht
          rcases List.mem_append.mp ht with ht | ht
          · exact htag t ht
          · rw [List.mem_singleton.mp ht]; exact hn
      rw [scan] at h
      by_cases hoa : o < af
      · rw [if_pos hoa] at h
        exact ⟨_, .go rfl skipF (.skip (by show b + o < b + af; lia)), ih none af lv sofar h hq' hmk htag (by lia) hd⟩
      rw [if_neg hoa] at h
      have hge : b + af ≤ b + o := by lia
      by_cases hu1 : u = [34]
      · rw [if_pos hu1] at h
        exact ⟨_, .go rfl skipF (.quote hge hu1), ih (some o) af lv sofar h hq' (fun m hm => by cases hm; exact ho) htag (by lia) hd⟩
      rw [if_neg hu1] at h
      by_cases hu2 : u = [10]
      · rw [if_pos hu2] at h
        split at h
        · rename_i hesc
          obtain ⟨e1, e2, e3⟩ := hesc
          have hc := hcut o ho
          cases hck : checkF (S.take o) with
          | none => rw [hck] at h; cases h
          | some c =>
            rw [hck] at h
            cases c with
            | true =>
              simp only at h
              split at h
              · rename_i hr
                obtain ⟨hr1, hr2⟩ := hr
                cases h
                subst hr1
                refine ⟨_, .go rfl skipF (.line (rest := base) (suf := sofar) hge (by show depTs (base ++ sofar) ≤ 60; lia) hu2 ?_ ?_ ?_ ?_ rfl htag hst), ?_⟩
                · show checkF (cut F (some ((b : Nat) : Int)) (some ((b + o : Nat) : Int))) = _
                  rw [hc]; exact hck
                · show (cut F (some ((b : Nat) : Int)) (some ((b + o : Nat) : Int))).length ≤ _
                  rw [hc, List.length_take]; lia
                · show escEnd false (cut F (some ((b : Nat) : Int)) (some ((b + o : Nat) : Int))) = _
                  rw [hc]; exact e1
                · show escEnd false (stripF (cut F (some ((b : Nat) : Int)) (some ((b + o : Nat) : Int)))) = _
                  rw [hc]; exact e2
                · show (⟨_, _, _, _, _, _⟩ : RS) = _
                  simp only [leafB, List.map_cons, List.map_nil, Option.map_none]
                  rw [← hr2, Nat.add_assoc]
              · cases h
            | false =>
              obtain ⟨lv', h', rfl⟩ := Option.map_eq_some_iff.mp h
              refine ⟨_, .go rfl skipF (.inner hge hu2 ?_ ?_ ?_ ?_), leafStep 63 af lv' ⟨by decide, by decide⟩ h'⟩
              · show checkF (cut F (some ((b : Nat) : Int)) (some ((b + o : Nat) : Int))) = _
                rw [hc]; exact hck
              · show (cut F (some ((b : Nat) : Int)) (some ((b + o : Nat) : Int))).length ≤ _
                rw [hc, List.length_take]; lia
              · show escEnd false (cut F (some ((b : Nat) : Int)) (some ((b + o : Nat) : Int))) = _
                rw [hc]; exact e1
              · show escEnd false (stripF (cut F (some ((b : Nat) : Int)) (some ((b + o : Nat) : Int)))) = _
                rw [hc]; exact e2
        · cases h
      rw [if_neg hu2] at h
      by_cases hu3 : u = [97] ∨ u = [98]
      · rw [if_pos hu3] at h
        obtain ⟨lv', h', rfl⟩ := Option.map_eq_some_iff.mp h
        exact ⟨_, .go rfl skipF (.name hge hu3), leafStep 1 af lv' ⟨by decide, by decide⟩ h'⟩
      rw [if_neg hu3] at h
      by_cases hu4 : u = [32] ∨ u = [9] ∨ u = [92, 10]
      · rw [if_pos hu4] at h
        exact ⟨_, .go rfl skipF (.blank hge hu4), ih none af lv sofar h hq' hmk htag (by lia) hd⟩
      rw [if_neg hu4] at h
      split at h
      · rename_i h10
        cases ht : tabF ((S.drop o).take (munch (S.drop o))) with
        | none => rw [ht] at h; cases h
        | some n =>
          rw [ht] at h
          simp only at h
          split at h
          · rename_i hn
            obtain ⟨n1, n2, n3, n4, n5⟩ := hn
            obtain ⟨lv', h', rfl⟩ := Option.map_eq_some_iff.mp h
            have hdr : F.drop (b + o) = S.drop o ++ rest := by
              rw [← List.drop_drop, hF, List.drop_append_of_le_length ho]
            have hmu : munch (F.drop (b + o)) = munch (S.drop o) := by rw [hdr, munch_more h10]
            refine ⟨_, .go rfl skipF (.op (n := n) hge ?_ ?_ n1 n2 n3), ?_⟩
            · simp only [not_or] at hu3 hu4
              simp [hu1, hu2, hu3, hu4]
            · rw [hmu, hdr, tab_more h10]; exact ht
            · have := leafStep n (o + munch (S.drop o)) lv' ⟨n4, n5⟩ h'
              show Steps F (shift b us) ⟨_, _, _, _, _, _⟩ _
              rw [hmu, Nat.add_assoc]
              exact this
          · cases h
      · cases h
end
theorem scan_all : ∀ f < 4, ∀ k < 41, scan (signsOf (wordsF f k)) (escGo 0 false (signsOf (wordsF f k))) none 0 = some (offsOf 0 (wordsF f k)) ∧ escEnd false (signsOf (wordsF f k)) = false := by decide +kernel
end Mine
end

noncomputable section -- L5b
open PySem PySem.W PySem.Calls PyProof.Rows
set_option maxRecDepth 100000
set_option autoImplicit false
namespace Mine

theorem bump_get (c : List Nat) (b j : Nat) : (bump c b).getD j 0 = c.getD j 0 + (if j = b then 1 else 0) := by
  have grow : ∀ (n j : Nat), (c ++ List.replicate n 0).getD j 0 = c.getD j 0 := fun n j => by
    rw [List.getD_eq_getElem?_getD, List.getD_eq_getElem?_getD]
    by_cases hj : j < c.length
    · rw [List.getElem?_append_left hj]
    · rw [List.getElem?_append_right (by lia), List.getElem?_replicate, List.getElem?_eq_none (l := c) (by lia)]
      split <;> rfl
  have main : ∀ (c' : List Nat), b < c'.length → (∀ j, c'.getD j 0 = c.getD j 0) → (c'.set b (c'.getD b 0 + 1)).getD j 0 = c.getD j 0 + (if j = b then 1 else 0) := fun c' hb hc => by
    rw [List.getD_eq_getElem?_getD, List.getElem?_set]
    by_cases hj : b = j
    · subst hj
      rw [if_pos rfl, if_pos hb, if_pos rfl, hc]; rfl
    · rw [if_neg hj, if_neg (fun q => hj q.symm), ← List.getD_eq_getElem?_getD, hc]; rfl
  unfold bump
  by_cases hb : b ≥ c.length
  · simp only [if_pos hb]
    exact main _ (by simp; lia) (grow _)
  · simp only [if_neg hb]
    exact main _ (by lia) fun _ => rfl
theorem list_ext_getD {a b : List Nat} (hl : a.length = b.length) (h : ∀ j, a.getD j 0 = b.getD j 0) : a = b := by
  refine List.ext_getElem hl fun i h1 h2 => ?_
  have := h i
  rw [List.getD_eq_getElem?_getD, List.getD_eq_getElem?_getD, List.getElem?_eq_getElem h1, List.getElem?_eq_getElem h2] at this
  exact this
theorem bump_comm (c : List Nat) (x y : Nat) : bump (bump c x) y = bump (bump c y) x := by
  refine list_ext_getD ?_ fun j => ?_
  · simp only [bump_len, Nat.max_assoc, Nat.max_comm (x + 1)]
  · simp only [bump_get, Nat.add_right_comm]
noncomputable def countOf (rs : List Nat) : List Nat := rs.foldl bump []
theorem count_rev (rs : List Nat) : countOf rs.reverse = countOf rs := List.Perm.foldl_eq' (List.reverse_perm rs) (fun x _ y _ z => bump_comm z x y) []

theorem fold_blanks : ∀ (k : Nat) (s : WS), (List.replicate k 32).foldl wsStep s = ⟨s.count, s.b + k, s.n + k, s.nt⟩
  | 0, s => rfl
  | k + 1, s => by
    rw [List.replicate_succ, List.foldl_cons, fold_blanks k]
    unfold wsStep
    simp only [if_true]
    congr 1 <;> lia
theorem fold_run (r : Nat) (s : WS) : (runOf (r : Int)).foldl wsStep s = ⟨bump s.count (s.b + r), 0, s.n + r + 1, s.nt + 1⟩ := by
  unfold runOf
  rw [List.foldl_append, Int.toNat_natCast, fold_blanks]
  rfl
theorem fold_runs : ∀ (rs : List Nat) (s : WS), s.b = 0 → ∃ n, ((rs.map fun (r : Nat) => runOf (r : Int)).flatten).foldl wsStep s = ⟨rs.foldl bump s.count, 0, n, s.nt + rs.length⟩
  | [], s, h => ⟨s.n, by
    cases s
    simp only at h
    subst h
    rfl⟩
  | r :: rs, s, h => by
    obtain ⟨n, e⟩ := fold_runs rs ⟨bump s.count (s.b + r), 0, s.n + r + 1, s.nt + 1⟩ rfl
    refine ⟨n, ?_⟩
    rw [List.map_cons, List.flatten_cons, List.foldl_append, fold_run, e, h, List.foldl_cons]
    simp only [Nat.zero_add, List.length_cons]
    congr 1
    lia
theorem ws_lead (l : List Nat × Nat) : wsOf (leadText l) = ⟨countOf l.1, l.2, (leadText l).length, l.1.length⟩ := by
  have hn := ws_n (leadText l)
  obtain ⟨n, e⟩ := fold_runs l.1 ws0 rfl
  have : wsOf (leadText l) = ⟨countOf l.1, l.2, n + l.2, l.1.length⟩ := by
    unfold wsOf leadText
    rw [List.foldl_append, e, fold_blanks]
    simp only [Nat.zero_add]
    congr 1
    exact Nat.zero_add _
  rw [this] at hn ⊢
  simp only at hn
  rw [hn]
theorem lead_length (l : List Nat × Nat) : (leadText l).length = (l.1.map (· + 1)).sum + l.2 := by
  unfold leadText
  rw [List.length_append, List.length_replicate, List.length_flatten, List.map_map]
  congr 2
  refine List.map_congr_left fun r _ => ?_
  simp [runOf]
theorem lead_rev (runs : List Nat) (b : Nat) : wsOf (leadText (runs.reverse, b)) = wsOf (leadText (runs, b)) := by
  rw [ws_lead, ws_lead]
  have h1 : (leadText (runs.reverse, b)).length = (leadText (runs, b)).length := by
    rw [lead_length, lead_length]
    have : ((runs.reverse).map (· + 1)).sum = (runs.map (· + 1)).sum := List.Perm.sum_nat (List.Perm.map _ (List.reverse_perm runs))
    simp only [this]
  simp only [count_rev, h1, List.length_reverse]
theorem ws_leadOf (x : Nat) (l : List Nat × Nat) : wsOf (leadOf x l) = wsOf (leadText l) := by
  unfold leadOf
  split
  · exact lead_rev _ _
  · rfl
theorem leadOf_blank (x : Nat) (l : List Nat × Nat) : ∀ c ∈ leadOf x l, blank c := lead_blank _

/-! the sizes of a count -/
theorem count_snoc (rs : List Nat) (r : Nat) : countOf (rs ++ [r]) = bump (countOf rs) r := by unfold countOf; rw [List.foldl_append]; rfl
theorem sum_set : ∀ (c : List Nat) (b : Nat), b < c.length → (c.set b (c.getD b 0 + 1)).sum = c.sum + 1
  | [], b, h => by simp at h
  | x :: c, 0, _ => by simp [List.getD]; lia
  | x :: c, b + 1, h => by
    have h' : b < c.length := by simpa using h
    have := sum_set c b h'
    rw [List.getD_cons_succ, List.set_cons_succ, List.sum_cons, List.sum_cons, this]
    lia
theorem bump_sum (c : List Nat) (b : Nat) : (bump c b).sum = c.sum + 1 := by
  unfold bump
  by_cases hb : b ≥ c.length
  · simp only [if_pos hb]
    rw [sum_set _ _ (by simp; lia)]
    simp
  · simp only [if_neg hb]
    exact sum_set _ _ (by lia)
theorem count_sum_go : ∀ (rs c : List Nat), (rs.foldl bump c).sum = c.sum + rs.length
  | [], c => rfl
  | r :: rs, c => by
    rw [List.foldl_cons, count_sum_go rs, bump_sum, List.length_cons]; lia
theorem count_sum (rs : List Nat) : (countOf rs).sum = rs.length := by
  unfold countOf
  rw [count_sum_go]
  exact Nat.zero_add _
theorem count_len_go : ∀ (rs c : List Nat), c.length ≤ 4 → (∀ r ∈ rs, r ≤ 3) → (rs.foldl bump c).length ≤ 4
  | [], c, h, _ => h
  | r :: rs, c, h, hr => by
    have := hr r (.head _)
    exact count_len_go rs _ (by rw [bump_len]; lia) fun y hy => hr y (.tail _ hy)
theorem le_sum : ∀ (c : List Nat) (x : Nat), x ∈ c → x ≤ c.sum
  | y :: c, x, h => by
    rw [List.sum_cons]
    rcases List.mem_cons.mp h with rfl | h
    · lia
    · have := le_sum c x h; lia
theorem small_lead {l : List Nat × Nat} (h1 : l.1.length ≤ 1000) (h2 : ∀ r ∈ l.1, r ≤ 3) (h3 : l.2 ≤ 1000) : SmallW (wsOf (leadText l)) := by
  rw [ws_lead]
  refine ⟨?_, fun x hx => ?_, h1, h3⟩
  · have : (countOf l.1).length ≤ 4 := count_len_go l.1 [] (by decide) h2
    exact Nat.le_trans this (by decide)
  · have a := le_sum (countOf l.1) x hx
    rw [count_sum] at a
    lia

/-! a deeper lead -/
theorem indSum_mono {c c' : List Nat} (h : ∀ j, c.getD j 0 ≤ c'.getD j 0) (ts : Nat) : ∀ (k k' i : Nat), k ≤ k' → indSum c ts i k ≤ indSum c' ts i k'
  | 0, k', i, _ => Nat.zero_le _
  | k + 1, 0, i, hk => by lia
  | k + 1, k' + 1, i, hk => by
    have := indSum_mono h ts k k' (i + 1) (by lia)
    have h2 : i / ts * c.getD i 0 ≤ i / ts * c'.getD i 0 := Nat.mul_le_mul_left _ (h i)
    show i / ts * c.getD i 0 + indSum c ts (i + 1) k ≤ i / ts * c'.getD i 0 + indSum c' ts (i + 1) k'
    lia
theorem new_deeper (kind : Nat) (l : List Nat × Nat) : (wsOf (leadText l)).n < (wsOf (leadText (newLead kind l))).n ∧ (wsOf (leadText l)).nt ≤ (wsOf (leadText (newLead kind l))).nt ∧ ∀ ts, 1 ≤ ts → indentF (wsOf (leadText l)) ts < indentF (wsOf (leadText (newLead kind l))) ts := by
  rw [ws_lead, ws_lead]
  unfold newLead
  by_cases hk : kind < 3
  · simp only [if_pos hk]
    refine ⟨?_, by simp, fun ts hts => ?_⟩
    · rw [lead_length, lead_length]
      simp only [List.map_append, List.sum_append]
      simp
    · unfold indentF
      simp only
      have hc : ∀ j, (countOf l.1).getD j 0 ≤ (countOf (l.1 ++ [kind + 1, 0])).getD j 0 := fun j => by
        have e : l.1 ++ [kind + 1, 0] = l.1 ++ [kind + 1] ++ [0] := by simp
        rw [e, count_snoc, count_snoc, bump_get, bump_get]
        lia
      have hlen : (countOf l.1).length ≤ (countOf (l.1 ++ [kind + 1, 0])).length := by
        have e : l.1 ++ [kind + 1, 0] = l.1 ++ [kind + 1] ++ [0] := by simp
        rw [e, count_snoc, count_snoc, bump_len, bump_len]
        lia
      have := indSum_mono hc ts _ _ ts (Nat.sub_le_sub_right hlen ts)
      have e2 : (l.1 ++ [kind + 1, 0]).length = l.1.length + 2 := by simp
      rw [e2]
      have hlt : indSum (countOf l.1) ts ts ((countOf l.1).length - ts) + l.1.length < indSum (countOf (l.1 ++ [kind + 1, 0])) ts ts ((countOf (l.1 ++ [kind + 1, 0])).length - ts) + (l.1.length + 2) := by lia
      have := Nat.mul_lt_mul_of_pos_left hlt hts
      lia
  · simp only [if_neg hk]
    refine ⟨?_, Nat.le_refl _, fun ts hts => ?_⟩
    · rw [lead_length, lead_length]
      simp only
      lia
    · unfold indentF
      simp only
      lia
end Mine
end

noncomputable section -- L5c
open PySem PySem.W PySem.Calls PyProof.Rows
set_option maxRecDepth 100000
set_option autoImplicit false
namespace Mine

/-! the leads grow -/
noncomputable def mu (l : List Nat × Nat) : Nat := l.1.length + l.2
noncomputable def LR2 (a b : List Nat × Nat) : Prop := (leadText a).length < (leadText b).length ∧ mu a < mu b
theorem LR2.trans {a b c : List Nat × Nat} (x : LR2 a b) (y : LR2 b c) : LR2 a c := ⟨Nat.lt_trans x.1 y.1, Nat.lt_trans x.2 y.2⟩
theorem LR2.new (kind : Nat) (l : List Nat × Nat) : LR2 l (newLead kind l) := by
  have h := (new_deeper kind l).1
  rw [ws_n, ws_n] at h
  refine ⟨h, ?_⟩
  unfold mu newLead
  split
  · simp
  · simp
noncomputable abbrev GrowL (ls : List (List Nat × Nat)) : Prop := ls.Pairwise LR2
theorem GrowL.open {ls : List (List Nat × Nat)} (h : GrowL ls) (hne : ls ≠ []) (kind : Nat) : GrowL (ls ++ [newLead kind (lastLead ls)]) := by
  obtain ⟨a, b, rfl⟩ := last_of hne
  rw [last_lead]
  refine List.pairwise_append.mpr ⟨h, List.pairwise_singleton _ _, fun x hx y hy => ?_⟩
  rw [List.mem_singleton.mp hy]
  rcases List.mem_append.mp hx with hx | hx
  · exact LR2.trans ((List.pairwise_append.mp h).2.2 x hx b (.head _)) (LR2.new kind b)
  · rw [List.mem_singleton.mp hx]; exact LR2.new kind b
theorem GrowL.take {ls : List (List Nat × Nat)} (h : GrowL ls) (n : Nat) : GrowL (ls.take n) := h.sublist (List.take_sublist _ _)
theorem LR2.ne {a b : List Nat × Nat} (h : LR2 a b) : ¬ ((wsOf (leadText b)).count = (wsOf (leadText a)).count ∧ (wsOf (leadText b)).b = (wsOf (leadText a)).b) := by
  rw [ws_lead, ws_lead]
  rintro ⟨h1, h2⟩
  simp only at h1 h2
  have e := congrArg List.sum h1
  rw [count_sum, count_sum] at e
  have := h.2
  unfold mu at this
  lia

/-! the open blocks and the pile -/
noncomputable def flatS : List (List T) → List T
  | [] => []
  | ts :: r => flatS r ++ ts.tail
inductive SpOk : List (List T) → Prop
  | root {items : List T} : (∀ t ∈ items, Tagged (256 ≤ ·) t) → SpOk [.i 259 :: items]
  | blk {a b : Nat} {items : List T} {r : List (List T)} : (∀ t ∈ items, Tagged (256 ≤ ·) t) → SpOk r → SpOk ((.i 257 :: leafT 5 a b :: items) :: r)
theorem tag_snoc {items : List T} {t : T} (h : ∀ t ∈ items, Tagged (256 ≤ ·) t) (ht : Tagged (256 ≤ ·) t) : ∀ u ∈ items ++ [t], Tagged (256 ≤ ·) u := by
  intro u hu
  rcases List.mem_append.mp hu with hu | hu
  · exact h u hu
  · rw [List.mem_singleton.mp hu]; exact ht
theorem SpOk.push {sp : List (List T)} {t : T} (h : SpOk sp) (ht : Tagged (256 ≤ ·) t) : SpOk (pushTop t sp) ∧ flatS (pushTop t sp) = flatS sp ++ [t] := by
  cases h with
  | root h => exact ⟨.root (tag_snoc h ht), by simp [pushTop, flatS]⟩
  | blk h r => exact ⟨.blk (tag_snoc h ht) r, by simp [pushTop, flatS]⟩
theorem SpOk.stop {sp : List (List T)} (h : SpOk sp) : Stop (flatS sp) := by
  cases h with
  | @root items h =>
    rcases List.eq_nil_or_concat items with q | ⟨a, b, q⟩
    · subst q; left; rfl
    · rw [List.concat_eq_append] at q
      subst q
      right
      obtain ⟨n, r, e, hn⟩ := (h b (by simp)).ex
      exact ⟨a, b, by simp [flatS], by rw [e]; exact .inr hn⟩
  | @blk a' b' items r h _ =>
    right
    rcases List.eq_nil_or_concat items with q | ⟨a, b, q⟩
    · subst q
      exact ⟨flatS r, leafT 5 a' b', by simp [flatS], .inl rfl⟩
    · rw [List.concat_eq_append] at q
      subst q
      obtain ⟨n, r', e, hn⟩ := (h b (by simp)).ex
      refine ⟨flatS r ++ leafT 5 a' b' :: a, b, by simp [flatS], by rw [e]; exact .inr hn⟩
theorem SpOk.close {six : T} {sp : List (List T)} (h : SpOk sp) (h2 : 2 ≤ sp.length) : SpOk (close1 six sp) ∧ Close6 six (flatS sp) (flatS (close1 six sp)) := by
  cases h with
  | root h => simp at h2
  | @blk a b items r h hr =>
    have ht : Tagged (256 ≤ ·) (.l (.i 257 :: leafT 5 a b :: items ++ [six])) := show (256 : Int) ≤ 257 by decide
    cases hr with
    | @root items' h' =>
      refine ⟨.root (tag_snoc h' ht), flatS [.i 259 :: items'], leafT 5 a b, items, by simp [flatS], h, show (5 : Int) < 256 by decide, by simp [flatS, close1]⟩
    | @blk a' b' items' r' h' hr' =>
      refine ⟨.blk (tag_snoc h' ht) hr', flatS ((.i 257 :: leafT 5 a' b' :: items') :: r'), leafT 5 a b, items, by simp [flatS], h, show (5 : Int) < 256 by decide, by simp [flatS, close1]⟩
theorem close1_len {six : T} {sp : List (List T)} (h : 2 ≤ sp.length) : (close1 six sp).length + 1 = sp.length := by
  match sp, h with
  | a :: b :: r, _ => rfl
theorem SpOk.closeN {six : T} : ∀ (n : Nat) {sp : List (List T)}, SpOk sp → n + 1 ≤ sp.length → SpOk (closeN six n sp) ∧ Closes six n (flatS sp) (flatS (closeN six n sp))
  | 0, _, h, _ => ⟨h, rfl⟩
  | n + 1, sp, h, hl => by
    obtain ⟨h1, h2⟩ := h.close (six := six) (by lia)
    have := close1_len (six := six) (sp := sp) (by lia)
    obtain ⟨h3, h4⟩ := SpOk.closeN (six := six) n h1 (by lia)
    exact ⟨h3, _, h2, h4⟩

/-! depths -/
noncomputable def DepS : List (List T) → Prop
  | [] => True
  | ts :: r => depTs ts + r.length ≤ 40 ∧ DepS r
theorem depTs_one (t : T) : depTs [t] = depT t := by rw [depTs, depTs]; exact Nat.max_zero _
theorem DepS.push {sp : List (List T)} {t : T} (h : DepS sp) (ht : depT t ≤ 2) (hl : sp.length ≤ 30) : DepS (pushTop t sp) := by
  cases sp with
  | nil => exact h
  | cons a r =>
    refine ⟨?_, h.2⟩
    rw [depTs_append, depTs_one]
    have := h.1
    simp only [List.length_cons] at hl
    lia
theorem DepS.close {sp : List (List T)} {six : T} (h : DepS sp) (h6 : depT six ≤ 1) (hl : sp.length ≤ 30) : DepS (close1 six sp) := by
  match sp, h with
  | [], h => exact h
  | [a], h => exact h
  | a :: b :: r, ⟨h1, h2, h3⟩ =>
    refine ⟨?_, h3⟩
    simp only [List.length_cons] at hl h1
    rw [depTs_append, depTs_one, depT, depTs_append, depTs_one]
    lia
theorem close1_le (six : T) (sp : List (List T)) : (close1 six sp).length ≤ sp.length := by
  match sp with
  | [] => exact Nat.le_refl _
  | [a] => exact Nat.le_refl _
  | a :: b :: r => simp [close1]
theorem DepS.closeN {six : T} (h6 : depT six ≤ 1) : ∀ (n : Nat) {sp : List (List T)}, DepS sp → sp.length ≤ 30 → DepS (closeN six n sp)
  | 0, _, h, _ => h
  | n + 1, sp, h, hl => DepS.closeN h6 n (h.close h6 hl) (Nat.le_trans (close1_le six sp) hl)
theorem depTs_tail (ts : List T) : depTs ts.tail ≤ depTs ts := by
  cases ts with
  | nil => exact Nat.le_refl _
  | cons a r => rw [List.tail_cons, depTs]; lia
theorem DepS.flat : ∀ {sp : List (List T)}, DepS sp → depTs (flatS sp) ≤ 40
  | [], _ => by simp [flatS, depTs]
  | ts :: r, ⟨h1, h2⟩ => by
    rw [flatS, depTs_append]
    have := DepS.flat h2
    have := depTs_tail ts
    lia
theorem flat_len {m : Nat} : ∀ {sp : List (List T)}, (∀ ts ∈ sp, ts.length ≤ m) → (flatS sp).length ≤ sp.length * m
  | [], _ => by simp [flatS]
  | ts :: r, h => by
    rw [flatS, List.length_append, List.length_cons, Nat.succ_mul]
    have h1 := flat_len (sp := r) fun t ht => h t (.tail _ ht)
    have h2 := h ts (.head _)
    have h3 : ts.tail.length ≤ ts.length := by simp
    lia

/-! units of texts put together -/
theorem esc_append (b : List Nat) : ∀ (a : List Nat) (i : Nat) (e : Bool), escEnd e a = false → escGo i e (a ++ b) = escGo i e a ++ escGo (i + a.length) false b
  | [], i, e, h => by
    cases e with
    | true => cases h
    | false => rfl
  | c :: a, i, true, h => by
    rw [List.cons_append, escGo, escGo, esc_append b a (i + 1) false h, List.cons_append, List.length_cons]
    congr 3
    lia
  | c :: a, i, false, h => by
    rw [List.cons_append, escGo, escGo]
    rw [escEnd] at h
    have e : i + 1 + a.length = i + (c :: a).length := by rw [List.length_cons]; lia
    by_cases hc : c = 92
    · rw [if_pos hc, if_pos hc]
      rw [decide_eq_true hc] at h
      rw [esc_append b a (i + 1) true h, e]
    · rw [if_neg hc, if_neg hc]
      rw [decide_eq_false hc] at h
      rw [esc_append b a (i + 1) false h, e]
      rfl
theorem escEnd_append (b : List Nat) : ∀ (a : List Nat) (e : Bool), escEnd e a = false → escEnd e (a ++ b) = escEnd false b
  | [], e, h => by
    cases e with
    | true => cases h
    | false => rfl
  | c :: a, true, h => escEnd_append b a false h
  | c :: a, false, h => by
    rw [List.cons_append, escEnd]
    rw [escEnd] at h
    exact escEnd_append b a _ h
theorem escEnd_no : ∀ (a : List Nat), 92 ∉ a → escEnd false a = false
  | [], _ => rfl
  | c :: a, h => by
    rw [escEnd, decide_eq_false (fun q => h (by simp [q]))]
    exact escEnd_no a fun q => h (.tail _ q)
theorem esc_shift (b : Nat) : ∀ (a : List Nat) (i : Nat) (e : Bool), (e = true → 1 ≤ i) → escGo (b + i) e a = shift b (escGo i e a)
  | [], i, true, h => by
    have := h rfl
    show [(b + i - 1, [92])] = [(b + (i - 1), [92])]
    congr 2
    lia
  | [], i, false, _ => rfl
  | c :: a, i, true, _ => by
    rw [escGo, escGo, Nat.add_assoc, esc_shift b a (i + 1) false (by intro h; cases h)]
    rfl
  | c :: a, i, false, _ => by
    rw [escGo, escGo]
    by_cases hc : c = 92
    · rw [if_pos hc, if_pos hc, Nat.add_assoc, esc_shift b a (i + 1) true (fun _ => by lia)]
    · rw [if_neg hc, if_neg hc, Nat.add_assoc, esc_shift b a (i + 1) false (by intro h; cases h)]
      rfl
theorem skip_units {F : List Nat} : ∀ (lead : List Nat) (q : Nat) (s : RS), 92 ∉ lead → q + lead.length ≤ s.after → s.after ≤ F.length → s.mark = none → s.pile.length ≤ 2 ^ 18 → s.leads.length ≤ 1000 → Steps F (escGo q false lead) s s
  | [], _, _, _, _, _, _, _, _ => rfl
  | c :: lead, q, s, h, hq, ha, hm, h1, h2 => by
    rw [List.length_cons] at hq
    rw [escGo, if_neg (fun e => h (by simp [e]))]
    refine ⟨⟨h1, h2, by show q ≤ _; lia⟩, s, .go hm (.skip (.inr (by show q < _; lia))) (.skip (by show q < _; lia)), ?_⟩
    exact skip_units lead (q + 1) s (fun e => h (.tail _ e)) (by lia) ha hm h1 h2
theorem fr_first {F : List Nat} {p : Nat} {u : List Nat} {r : List (Nat × List Nat)} {s s2 s3 : RS} (h : Steps F ((p, u) :: r) s2 s3) (hf : FrS F p s s2) (hm : s.mark = none) (hfr : s2.fresh = false) (h1 : s.pile.length ≤ 2 ^ 18) (h2 : s.leads.length ≤ 1000) : Steps F ((p, u) :: r) s s3 := by
  obtain ⟨⟨_, _, hp⟩, s4, hst, hr⟩ := h
  have hm2 : s2.mark = none := by rw [hf.len.2, hm]
  refine ⟨⟨h1, h2, hp⟩, s4, ?_, hr⟩
  cases hst with
  | inn h _ => rw [hm2] at h; cases h
  | out h _ _ => rw [hm2] at h; cases h
  | go _ hfr2 hun =>
    cases hfr2 with
    | skip _ => exact .go hm hf hun
    | white h => rw [hfr] at h; cases h
    | deeper h => rw [hfr] at h; cases h
    | back h => rw [hfr] at h; cases h
end Mine
end

noncomputable section -- L5d
open PySem PySem.W PySem.Calls PyProof.Rows
set_option maxRecDepth 100000
set_option autoImplicit false
namespace Mine

noncomputable abbrev wsl (l : List Nat × Nat) : WS := wsOf (leadText l)
structure PO (D : DS) : Prop where
  sp : SpOk D.spine
  dep : DepS D.spine
  grow : GrowL D.leads
  col : colOf D.text = 0
noncomputable def relS (D : DS) (be : Nat) : RS := ⟨flatS D.spine, D.leads.map wsl, true, none, D.text.length, be⟩
noncomputable def whiteAdd (x : Nat) : List Nat := if x / 6560 % 3 = 0 then [9, 32, 10] else []
theorem white_add (D : DS) (x : Nat) : (whiteD x D).text = D.text ++ whiteAdd x := by
  unfold whiteD whiteAdd
  split
  · simp
  · simp
theorem take_app (t a rest F : List Nat) (h1 : F.take t.length = t) (h2 : F.drop t.length = a ++ rest) : F.take (t ++ a).length = t ++ a ∧ F.drop (t ++ a).length = rest := by
  have e : F = t ++ (a ++ rest) := by
    have q := List.take_append_drop t.length F
    rw [h1, h2] at q
    exact q.symm
  subst e
  constructor
  · rw [← List.append_assoc]; exact List.take_left
  · rw [← List.append_assoc]; exact List.drop_left
theorem row_lead {t lead : List Nat} (h : 10 ∉ lead) : rowOf (t ++ lead) = rowOf t := by rw [row_append, row_no h]; rfl

section
variable {D : DS} {n x : Nat} {F rest : List Nat}
theorem spine_small {m : Nat} {sp : List (List T)} (h1 : ∀ ts ∈ sp, ts.length ≤ m) (hm : m ≤ 400) (h2 : sp.length ≤ 100) : (flatS sp).length ≤ 40000 := by
  have h := flat_len h1
  have : sp.length * m ≤ 100 * 400 := Nat.mul_le_mul h2 hm
  lia
theorem white_read (B : DB n D) (hn : n ≤ 12) (P : PO D) (be : Nat) (ht : F.take D.text.length = D.text) (hd : F.drop D.text.length = whiteAdd x ++ rest) :
    ∃ be', Steps F (escGo D.text.length false (whiteAdd x)) (relS D be) (relS (whiteD x D) be') ∧ PO (whiteD x D) := by
  have hsz := spine_small B.spine (by lia) (by have := B.sp; have := B.leads; lia)
  have hll : (D.leads.map wsl).length ≤ 1000 := by rw [List.length_map]; have := B.leads; lia
  have hlen : D.text.length + (whiteAdd x).length ≤ F.length := by
    have := congrArg List.length hd
    simp only [List.length_drop, List.length_append] at this
    have h2 := congrArg List.length ht
    rw [List.length_take] at h2
    by_cases q : D.text.length ≤ F.length
    · lia
    · lia
  unfold whiteAdd at hd hlen ⊢
  unfold whiteD
  by_cases hx : x / 6560 % 3 = 0
  · rw [if_pos hx] at hd hlen ⊢
    rw [if_pos hx]
    simp only [List.length_cons, List.length_nil] at hlen
    have e2 : F.take (D.text.length + 2) = D.text ++ [9, 32] := by
      have := (take_app D.text [9, 32] (10 :: rest) F ht (by rw [hd]; rfl)).1
      simpa using this
    have eleaf : leafP F 63 (D.text.length + 2) = leafT 63 (rowOf (D.text ++ [9, 32])) (colOf (D.text ++ [9, 32])) := by unfold leafP; rw [e2]
    have htag : Tagged (256 ≤ ·) (.l [.i 258, leafT 63 (rowOf (D.text ++ [9, 32])) (colOf (D.text ++ [9, 32]))]) := show (256 : Int) ≤ 258 by decide
    obtain ⟨s1, s2⟩ := P.sp.push htag
    have es : escGo D.text.length false [9, 32, 10] = [(D.text.length, [9]), (D.text.length + 1, [32]), (D.text.length + 1 + 1, [10])] := rfl
    rw [es]
    have hdep : depT (.l [.i 258, leafT 63 (rowOf (D.text ++ [9, 32])) (colOf (D.text ++ [9, 32]))]) ≤ 2 := by
      rw [depT, depTs, depTs_one, leaf_dep, depT]; decide
    refine ⟨D.text.length + 2, ?_, ⟨s1, P.dep.push hdep (by have := B.sp; have := B.leads; lia), P.grow, ?_⟩⟩
    · have e3 : relS { D with text := D.text ++ [9, 32] ++ [10], spine := pushTop (.l [.i 258, leafT 63 (rowOf (D.text ++ [9, 32])) (colOf (D.text ++ [9, 32]))]) D.spine } (D.text.length + 2) =
          ⟨flatS D.spine ++ [.l [.i 258, leafP F 63 (D.text.length + 2)]], D.leads.map wsl, true, none, D.text.length + 2 + 1, D.text.length + 2⟩ := by
        unfold relS
        rw [s2, eleaf]
        simp
      rw [e3]
      have hz2 : (flatS D.spine ++ [T.l [.i 258, leafP F 63 (D.text.length + 2)]]).length ≤ 2 ^ 18 := by simp; lia
      refine ⟨⟨by show (flatS D.spine).length ≤ _; lia, hll, by show D.text.length ≤ _; lia⟩, _, .go rfl (.white (lead := [9, 32]) (rest := rest) rfl (Nat.le_refl _) (by rw [hd]; rfl) (by intro c hc; simp only [List.mem_cons, List.not_mem_nil, or_false] at hc; rcases hc with rfl | rfl; exact .inr rfl; exact .inl rfl) (by decide)) (.skip (by show D.text.length < D.text.length + 2 + 1; lia)), ?_⟩
      refine ⟨⟨hz2, hll, by show D.text.length + 1 ≤ _; lia⟩, _, .go rfl (.skip (.inr (by show D.text.length + 1 < D.text.length + 2 + 1; lia))) (.skip (by show D.text.length + 1 < D.text.length + 2 + 1; lia)), ?_⟩
      exact ⟨⟨hz2, hll, by show D.text.length + 1 + 1 ≤ _; lia⟩, _, .go rfl (.skip (.inr (by show D.text.length + 1 + 1 < D.text.length + 2 + 1; lia))) (.skip (by show D.text.length + 1 + 1 < D.text.length + 2 + 1; lia)), rfl⟩
    · exact col_nl _
  · rw [if_neg hx, if_neg hx]
    exact ⟨be, rfl, P⟩

theorem lead_read {D1 : DS} {be lev c : Nat} {tl lead : List Nat} (B : DB1 n D1) (hn : n ≤ 12) (P : PO D1) (hlev : lev ≤ D1.leads.length) (hlead : leadOf x (lastLead (cutD lev (openD lev x D1)).leads) = lead) (ht : F.take D1.text.length = D1.text) (hd : F.drop D1.text.length = lead ++ c :: tl) (hc : ¬ blank c) (hc10 : c ≠ 10) :
    ∃ D4, closeD lead (cutD lev (openD lev x D1)) = D4 ∧ FrS F D1.text.length (relS D1 be) ⟨flatS D4.spine, D4.leads.map wsl, false, none, D1.text.length + lead.length, D1.text.length + lead.length⟩ ∧ SpOk D4.spine ∧ DepS D4.spine ∧ GrowL D4.leads := by
  refine ⟨_, rfl, ?_⟩
  have b1 := B.sp
  have b2 := B.leads
  have hbl : ∀ c ∈ lead, blank c := by rw [← hlead]; exact leadOf_blank _ _
  have hno : 10 ∉ lead := by rw [← hlead]; exact lead_no _
  have ews : wsOf lead = wsl (lastLead (cutD lev (openD lev x D1)).leads) := by rw [← hlead]; exact ws_leadOf _ _
  have hll : lead.length ≤ 1000 := by
    have R := (B.open lev x).runs
    have Z := ((B.open lev x).z (by lia)).take lev
    have := leadOf_len (R _ (List.mem_of_mem_take (last_mem Z.2))) (by lia) x
    have e : leadOf x (lastLead (List.take (lev + 1) (openD lev x D1).leads)) = lead := hlead
    rw [e] at this
    lia
  by_cases hx : lev = D1.leads.length
  · -- a new block
    subst hx
    have eo : openD D1.leads.length x D1 = { D1 with leads := D1.leads ++ [newLead (x / 5 % 4) (lastLead D1.leads)], spine := [.i 257, leafT 5 (rowOf D1.text) 0] :: D1.spine } := by unfold openD; rw [if_pos rfl]
    have ec : cutD D1.leads.length (openD D1.leads.length x D1) = { D1 with leads := D1.leads ++ [newLead (x / 5 % 4) (lastLead D1.leads)], spine := [.i 257, leafT 5 (rowOf D1.text) 0] :: D1.spine } := by
      rw [eo]
      unfold cutD
      simp only
      rw [List.take_of_length_le (by simp)]
    rw [ec] at ews
    simp only [last_lead] at ews
    have e4 : closeD lead (cutD D1.leads.length (openD D1.leads.length x D1)) = { D1 with leads := D1.leads ++ [newLead (x / 5 % 4) (lastLead D1.leads)], spine := [.i 257, leafT 5 (rowOf D1.text) 0] :: D1.spine } := by
      rw [ec]
      unfold closeD
      simp only [List.length_cons, List.length_append, List.length_nil, b1, Nat.sub_self]
      rfl
    rw [e4]
    obtain ⟨ini, z, ez⟩ := last_of B.ne
    have elz : lastLead D1.leads = z := by rw [ez]; exact last_lead _ _
    obtain ⟨w1, w2, w3⟩ := new_deeper (x / 5 % 4) z
    have rz := B.runs z (by rw [ez]; simp)
    have rn := new_ok (kind := x / 5 % 4) rz
    rw [elz] at ews ⊢
    have S1 : SmallW (wsl z) := small_lead (by lia) rz.2.1 (by lia)
    have S2 : SmallW (wsl (newLead (x / 5 % 4) z)) := small_lead (by lia) rn.2.1 (by lia)
    have fr := FrS.deeper (F := F) (p := D1.text.length) (s := relS D1 be) (lead := lead) (rest := tl) (c := c) (ls := ini.map wsl) (t := wsl z) rfl (Nat.le_refl _) hd hbl hll hc hc10 (by unfold relS; rw [ez]; simp) S1 (by rw [ews]; exact S2) (by rw [ews]; exact w1) (by rw [ews]; exact w2) (by rw [ews]; exact w3)
    have eleaf : leafP F 5 D1.text.length = leafT 5 (rowOf D1.text) 0 := by unfold leafP; rw [ht, P.col]
    refine ⟨?_, .blk (by simp) P.sp, ⟨?_, P.dep⟩, ?_⟩
    · rw [eleaf, ews] at fr
      have : (⟨flatS ([T.i 257, leafT 5 (rowOf D1.text) 0] :: D1.spine), (D1.leads ++ [newLead (x / 5 % 4) z]).map wsl, false, none, D1.text.length + lead.length, D1.text.length + lead.length⟩ : RS) = { relS D1 be with pile := (relS D1 be).pile ++ [leafT 5 (rowOf D1.text) 0], leads := (relS D1 be).leads ++ [wsl (newLead (x / 5 % 4) z)], fresh := false, begin := D1.text.length + lead.length, after := D1.text.length + lead.length } := by
        unfold relS
        simp [flatS]
      show FrS F D1.text.length (relS D1 be) ⟨flatS ([T.i 257, leafT 5 (rowOf D1.text) 0] :: D1.spine), (D1.leads ++ [newLead (x / 5 % 4) z]).map wsl, false, none, D1.text.length + lead.length, D1.text.length + lead.length⟩
      rw [this]
      exact fr
    · rw [depTs, depTs_one, leaf_dep, depT]
      lia
    · have := P.grow.open B.ne (x / 5 % 4)
      rw [elz] at this
      exact this
  · -- an open block, or one further out
    have hlt : lev < D1.leads.length := by lia
    have eo : openD lev x D1 = D1 := by unfold openD; rw [if_neg hx]
    rw [eo] at ews ⊢
    have ecl : (cutD lev D1).leads = D1.leads.take (lev + 1) := rfl
    have hne : D1.leads.take (lev + 1) ≠ [] := by
      intro q
      have := congrArg List.length q
      rw [List.length_take, List.length_nil] at this
      lia
    obtain ⟨A, t, eA⟩ := last_of hne
    have eall : D1.leads = A ++ [t] ++ D1.leads.drop (lev + 1) := by rw [← eA, List.take_append_drop]
    rw [ecl, eA, last_lead] at ews
    obtain ⟨Z, z, ez⟩ := last_of B.ne
    have g := P.grow
    have hz : (wsl t).n ≤ (wsl z).n := by
      have hm : t ∈ Z ++ [z] := by rw [← ez, eall]; simp
      rcases List.mem_append.mp hm with hm | hm
      · rw [ez] at g
        have := (List.pairwise_append.mp g).2.2 t hm z (.head _)
        rw [ws_n, ws_n]
        exact Nat.le_of_lt this.1
      · rw [List.mem_singleton.mp hm]; exact Nat.le_refl _
    have hpop : ∀ w ∈ (D1.leads.drop (lev + 1)).map wsl, ¬ (w.count = (wsOf lead).count ∧ w.b = (wsOf lead).b) := by
      intro w hw
      obtain ⟨y, hy, rfl⟩ := List.mem_map.mp hw
      rw [ews]
      rw [eall] at g
      exact LR2.ne ((List.pairwise_append.mp g).2.2 t (by simp) y hy)
    have hcnt : D1.spine.length - (cutD lev D1).leads.length = ((D1.leads.drop (lev + 1)).map wsl).length := by
      rw [ecl, List.length_take, List.length_map, List.length_drop, b1]
      lia
    obtain ⟨s1, s2⟩ := P.sp.closeN (six := leafT 6 (rowOf D1.text) lead.length) (D1.spine.length - (cutD lev D1).leads.length) (by rw [ecl, List.length_take, b1]; lia)
    have eleaf : leafP F 6 (D1.text.length + lead.length) = leafT 6 (rowOf D1.text) lead.length := by
      unfold leafP
      have := (take_app D1.text lead (c :: tl) F ht hd).1
      rw [List.length_append] at this
      rw [this, row_lead hno, col_no hno, P.col, Nat.zero_add]
    have fr := FrS.back (F := F) (p := D1.text.length) (s := relS D1 be) (lead := lead) (rest := tl) (c := c) (ls := A.map wsl) (t := wsl t) (pop := (D1.leads.drop (lev + 1)).map wsl) (t0 := wsl z) (lz := Z.map wsl) (ini := []) (pile' := flatS (closeN (leafT 6 (rowOf D1.text) lead.length) (D1.spine.length - (cutD lev D1).leads.length) D1.spine))
      rfl (Nat.le_refl _) hd hbl hll hc hc10 (by
        show D1.leads.map wsl = _
        exact (congrArg (List.map wsl) eall).trans (by simp)) (by
        show D1.leads.map wsl = _
        exact (congrArg (List.map wsl) ez).trans (by simp)) (by rw [ews]; exact hz) (by rw [ews]; exact ⟨rfl, rfl⟩) hpop (by rw [eleaf, ← hcnt]; exact s2)
    refine ⟨?_, s1, ?_, ?_⟩
    · have : (⟨flatS (closeD lead (cutD lev D1)).spine, (closeD lead (cutD lev D1)).leads.map wsl, false, none, D1.text.length + lead.length, D1.text.length + lead.length⟩ : RS) = { relS D1 be with pile := flatS (closeN (leafT 6 (rowOf D1.text) lead.length) (D1.spine.length - (cutD lev D1).leads.length) D1.spine), leads := A.map wsl ++ [wsl t], fresh := false, begin := D1.text.length + lead.length, after := D1.text.length + lead.length } := by
        have hmap : (closeD lead (cutD lev D1)).leads.map wsl = A.map wsl ++ [wsl t] := by
          show (cutD lev D1).leads.map wsl = _
          rw [ecl, eA]; simp
        rw [hmap]
        rfl
      rw [this]
      exact fr
    · exact DepS.closeN (by rw [leaf_dep]; decide) _ P.dep (show D1.spine.length ≤ 30 by lia)
    · exact P.grow.take _
end
end Mine
end

noncomputable section -- L5e
open PySem PySem.W PySem.Calls PyProof.Rows
set_option maxRecDepth 100000
set_option autoImplicit false
namespace Mine

theorem words_ends : ∀ f < 4, ∀ k < 41, ((signsOf (wordsF f k)).head? = some 97 ∨ (signsOf (wordsF f k)).head? = some 34) ∧ (signsOf (wordsF f k)).getLast? = some 10 := by decide +kernel
theorem open_text (lev x : Nat) (D : DS) : (openD lev x D).text = D.text := by unfold openD; split <;> rfl
theorem leaves_dep : ∀ (ws : List (Int × List Nat)) (t : List Nat), depTs (leavesOf t ws) ≤ 1
  | [], _ => by simp [leavesOf, depTs]
  | (n, sg) :: r, t => by
    rw [leavesOf]
    have := leaves_dep r (t ++ sg)
    split
    · rw [depTs, leaf_dep]; lia
    · exact this
theorem leaves_offs {F : List Nat} {b : Nat} : ∀ (ws : List (Int × List Nat)) (o : Nat) (rest : List Nat), b + o ≤ F.length → F.drop (b + o) = signsOf ws ++ rest → leavesOf (F.take (b + o)) ws = (offsOf o ws).map (leafB F b)
  | [], _, _, _, _ => rfl
  | (n, sg) :: r, o, rest, hb, h => by
    have e1 : signsOf ((n, sg) :: r) = sg ++ signsOf r := by simp [signsOf]
    rw [e1, List.append_assoc] at h
    have hl : (F.take (b + o)).length = b + o := by rw [List.length_take]; lia
    have h1 : F.take (F.take (b + o)).length = F.take (b + o) := by rw [hl]
    have h2 : F.drop (F.take (b + o)).length = sg ++ (signsOf r ++ rest) := by rw [hl]; exact h
    obtain ⟨h3, h4⟩ := take_app (F.take (b + o)) sg (signsOf r ++ rest) F h1 h2
    rw [List.length_append, hl, Nat.add_assoc] at h3 h4
    have hle : b + (o + sg.length) ≤ F.length := by
      have := congrArg List.length h
      simp only [List.length_drop, List.length_append] at this
      lia
    have ih := leaves_offs r (o + sg.length) rest hle h4
    rw [leavesOf, offsOf, ← h3, ih]
    split
    · rfl
    · rfl
theorem step_text (D : DS) (x : Nat) : ∃ A, (drawStep D x).text = D.text ++ A := by
  rw [drawStep_eq rfl rfl rfl]
  show ∃ A, (openD _ x (whiteD x D)).text ++ _ ++ _ = D.text ++ A
  rw [open_text, white_add]
  exact ⟨_, by rw [List.append_assoc, List.append_assoc]⟩
theorem fold_text : ∀ (ns : List Nat) (D : DS), ∃ A, (ns.foldl drawStep D).text = D.text ++ A
  | [], D => ⟨[], by simp⟩
  | x :: ns, D => by
    obtain ⟨A, h⟩ := step_text D x
    obtain ⟨A2, h2⟩ := fold_text ns (drawStep D x)
    exact ⟨A ++ A2, by rw [List.foldl_cons, h2, h, List.append_assoc]⟩

section
variable {D : DS} {n x : Nat} {F rest A : List Nat}
theorem read_step (B : DB n D) (hn : n ≤ 12) (P : PO D) (be : Nat) (ht : F.take D.text.length = D.text) (hd : F.drop D.text.length = A ++ rest) (hA : (drawStep D x).text = D.text ++ A) :
    ∃ be', Steps F (escGo D.text.length false A) (relS D be) (relS (drawStep D x) be') ∧ escEnd false A = false ∧ PO (drawStep D x) := by
  have B1 := B.white x
  obtain ⟨lev, hlev⟩ : ∃ lev, x % ((whiteD x D).leads.length + 1) = lev := ⟨_, rfl⟩
  obtain ⟨lead, hL⟩ : ∃ lead, leadOf x (lastLead (cutD lev (openD lev x (whiteD x D))).leads) = lead := ⟨_, rfl⟩
  have hf4 : x / 40 % 4 < 4 := Nat.mod_lt _ (by decide)
  have hk41 : x / 160 % 41 < 41 := Nat.mod_lt _ (by decide)
  have hstep := drawStep_eq hlev rfl hL
  obtain ⟨S, hS⟩ : ∃ S, signsOf (wordsF (x / 40 % 4) (x / 160 % 41)) = S := ⟨_, rfl⟩
  obtain ⟨hhead, hlast⟩ := words_ends _ hf4 _ hk41
  obtain ⟨hscan, hesc⟩ := scan_all _ hf4 _ hk41
  obtain ⟨w1, w2, w3⟩ := words_ok _ hf4 _ hk41
  rw [hS] at hhead hlast hscan hesc w2
  have eA : A = whiteAdd x ++ (lead ++ S) := by
    rw [hstep] at hA
    have e : (openD lev x (whiteD x D)).text ++ lead ++ signsOf (wordsF (x / 40 % 4) (x / 160 % 41)) = D.text ++ A := hA
    rw [open_text, white_add, hS, List.append_assoc, List.append_assoc] at e
    exact (List.append_cancel_left e).symm
  have hB := step_bound B (by lia) x
  rw [hstep] at hB ⊢
  subst eA
  rw [List.append_assoc] at hd
  obtain ⟨be1, st1, P1⟩ := white_read B hn P be ht hd
  obtain ⟨ht1, hd1⟩ := take_app D.text (whiteAdd x) ((lead ++ S) ++ rest) F ht hd
  rw [← white_add] at ht1 hd1
  generalize hD1 : whiteD x D = D1 at *
  have hq : D1.text.length = D.text.length + (whiteAdd x).length := by rw [← hD1, white_add, List.length_append]
  obtain ⟨c, S', eS, hcn, hc10, hc92⟩ : ∃ c S', S = c :: S' ∧ ¬ blank c ∧ c ≠ 10 ∧ c ≠ 92 := by
    match S, hhead with
    | c :: S', h =>
      simp only [List.head?_cons, Option.some.injEq] at h
      refine ⟨c, S', rfl, ?_, ?_, ?_⟩
      · rintro (q | q) <;> lia
      · lia
      · lia
    | [], h => simp at h
  have hd1' : F.drop D1.text.length = lead ++ c :: (S' ++ rest) := by rw [hd1, eS]; simp
  obtain ⟨D4, hD4, fr, sp4, dep4, gr4⟩ := lead_read (be := be1) B1 hn P1 (by rw [← hlev]; exact Nat.le_of_lt_succ (Nat.mod_lt _ (Nat.succ_pos _))) hL ht1 hd1' hcn hc10
  have hd1a : F.drop D1.text.length = lead ++ (S ++ rest) := by rw [hd1]; simp
  obtain ⟨ht2, hd2⟩ := take_app D1.text lead (S ++ rest) F ht1 hd1a
  have hb : (D1.text ++ lead).length ≤ F.length := by
    have := congrArg List.length ht2
    rw [List.length_take] at this
    lia
  rw [List.length_append] at ht2 hd2 hb
  have hlen : F.length = D1.text.length + lead.length + (S.length + rest.length) := by
    have := congrArg List.length hd2
    simp only [List.length_drop, List.length_append] at this
    lia
  have t4 : D4.text = D1.text := by rw [← hD4]; exact open_text lev x D1
  -- sizes
  have B2 := B1.open lev x
  have h4s : ∀ ts ∈ D4.spine, ts.length ≤ 3 + 10 * n + 1 := by rw [← hD4]; exact closeD_spine (cutD lev (openD lev x D1)) lead _ B2.spine
  have h4p := hB.sp
  have h4l := hB.leads
  have e4l : D4.spine.length = D4.leads.length := by
    rw [← hD4]
    have e : (pushTop (.l (.i 256 :: leavesOf _ _)) (closeD lead (cutD lev (openD lev x D1))).spine).length = (closeD lead (cutD lev (openD lev x D1))).leads.length := h4p
    rw [push_len] at e
    exact e
  have e4b : D4.leads.length ≤ n + 1 + 1 := by rw [← hD4]; exact h4l
  have sz4 := spine_small h4s (by lia) (by lia)
  have szl : (D4.leads.map wsl).length ≤ 1000 := by rw [List.length_map]; lia
  have sz1 := spine_small B1.spine (by lia) (by have := B1.sp; have := B1.leads; lia)
  have szl1 : (D1.leads.map wsl).length ≤ 1000 := by rw [List.length_map]; have := B1.leads; lia
  have dp4 := dep4.flat
  -- the statement
  have st3 := scan_steps (F := F) (S := S) (rest := rest) (b := D1.text.length + lead.length) hd2 hb (by lia) sp4.stop szl (escGo 0 false S) none 0 (offsOf 0 (wordsF (x / 40 % 4) (x / 160 % 41))) [] hscan (fun q hq => by have := esc_places S 0 false hesc q hq; lia) (by intro m h; cases h) (by intro t h; cases h) (by have := escGo_len S 0 false hesc; simp only [List.length_nil]; lia) (by rw [List.append_nil]; lia)
  rw [← esc_shift (D1.text.length + lead.length) S 0 false (by intro h; cases h)] at st3
  have hlv := leaves_offs (F := F) (b := D1.text.length + lead.length) (wordsF (x / 40 % 4) (x / 160 % 41)) 0 rest hb (by rw [hS]; exact hd2)
  simp only [Nat.add_zero, List.append_nil, List.nil_append, Option.map_none] at st3 hlv
  rw [← hlv, ht2] at st3
  -- the lead's units
  have hl92 : 92 ∉ lead := by
    intro q
    have : blank 92 := by rw [← hL] at q; exact leadOf_blank _ _ 92 q
    rcases this with h | h <;> cases h
  have st2 : Steps F (escGo D1.text.length false lead) ⟨flatS D4.spine, D4.leads.map wsl, false, none, D1.text.length + lead.length, D1.text.length + lead.length⟩ ⟨flatS D4.spine, D4.leads.map wsl, false, none, D1.text.length + lead.length, D1.text.length + lead.length⟩ :=
    skip_units lead D1.text.length _ hl92 (Nat.le_refl _) hb rfl (show (flatS D4.spine).length ≤ 2 ^ 18 by lia) szl
  have st23 := st2.append st3
  rw [← esc_append S lead D1.text.length false (escEnd_no lead hl92)] at st23
  obtain ⟨c0, t0, e0, h092⟩ : ∃ c0 t0, lead ++ S = c0 :: t0 ∧ c0 ≠ 92 := by
    match lead, hl92 with
    | [], _ => exact ⟨c, S', eS, hc92⟩
    | a :: l, h => exact ⟨a, l ++ S, rfl, fun q => h (by simp [q])⟩
  have st4 : Steps F (escGo D1.text.length false (lead ++ S)) (relS D1 be1) ⟨flatS D4.spine ++ [.l (.i 256 :: leavesOf (D1.text ++ lead) (wordsF (x / 40 % 4) (x / 160 % 41)))], D4.leads.map wsl, true, none, D1.text.length + lead.length + S.length, D1.text.length + lead.length⟩ := by
    rw [e0, escGo, if_neg h092] at st23 ⊢
    exact fr_first st23 fr rfl rfl (show (flatS D1.spine).length ≤ 2 ^ 18 by lia) szl1
  rw [hq] at st4
  have htag : Tagged (256 ≤ ·) (.l (.i 256 :: leavesOf (D1.text ++ lead) (wordsF (x / 40 % 4) (x / 160 % 41)))) := show (256 : Int) ≤ 256 by decide
  obtain ⟨sp5, fl5⟩ := sp4.push htag
  have hw : escEnd false (whiteAdd x) = false := by unfold whiteAdd; split <;> rfl
  have hls : escEnd false (lead ++ S) = false := by rw [escEnd_append S lead false (escEnd_no lead hl92)]; exact hesc
  have efin : wordsD (wordsF (x / 40 % 4) (x / 160 % 41)) { closeD lead (cutD lev (openD lev x D1)) with text := (closeD lead (cutD lev (openD lev x D1))).text ++ lead } = ⟨D1.text ++ lead ++ S, D4.leads, pushTop (.l (.i 256 :: leavesOf (D1.text ++ lead) (wordsF (x / 40 % 4) (x / 160 % 41)))) D4.spine⟩ := by
    rw [hD4]
    unfold wordsD
    rw [hS, t4]
  rw [efin]
  refine ⟨D1.text.length + lead.length, ?_, ?_, ?_⟩
  · rw [esc_append (lead ++ S) (whiteAdd x) D.text.length false hw]
    refine st1.append ?_
    have e5 : relS ⟨D1.text ++ lead ++ S, D4.leads, pushTop (.l (.i 256 :: leavesOf (D1.text ++ lead) (wordsF (x / 40 % 4) (x / 160 % 41)))) D4.spine⟩ (D1.text.length + lead.length) = ⟨flatS D4.spine ++ [.l (.i 256 :: leavesOf (D1.text ++ lead) (wordsF (x / 40 % 4) (x / 160 % 41)))], D4.leads.map wsl, true, none, D1.text.length + lead.length + S.length, D1.text.length + lead.length⟩ := by
      unfold relS
      rw [fl5]
      simp only [List.length_append]
    rw [e5, hq]
    exact st4
  · rw [escEnd_append _ _ _ hw]; exact hls
  · refine ⟨sp5, dep4.push ?_ (by lia), gr4, ?_⟩
    · rw [depT, depTs]
      have := leaves_dep (wordsF (x / 40 % 4) (x / 160 % 41)) (D1.text ++ lead)
      rw [depT]
      lia
    · obtain ⟨S0, eS0⟩ : ∃ S0, S = S0 ++ [10] := by
        rcases List.eq_nil_or_concat S with q | ⟨a, b, q⟩
        · rw [q] at hlast; simp at hlast
        · rw [List.concat_eq_append] at q
          rw [q] at hlast
          simp at hlast
          exact ⟨a, by rw [q, hlast]⟩
      show colOf (D1.text ++ lead ++ S) = 0
      rw [eS0, ← List.append_assoc]
      exact col_nl _
end
end Mine
end

noncomputable section -- L5f
open PySem PySem.W PySem.Calls PyProof.Rows
set_option maxRecDepth 100000
set_option autoImplicit false
namespace Mine

theorem read_all {F : List Nat} : ∀ (ns : List Nat) (D : DS) (n be : Nat) (A rest : List Nat), DB n D → PO D → n + ns.length ≤ 12 → F.take D.text.length = D.text → F.drop D.text.length = A ++ rest → (ns.foldl drawStep D).text = D.text ++ A →
    ∃ be', Steps F (escGo D.text.length false A) (relS D be) (relS (ns.foldl drawStep D) be') ∧ escEnd false A = false ∧ PO (ns.foldl drawStep D) ∧ DB (n + ns.length) (ns.foldl drawStep D)
  | [], D, n, be, A, rest, B, P, hn, ht, hd, hA => by
    have : A = [] := by
      have e : D.text = D.text ++ A := hA
      have := congrArg List.length e
      rw [List.length_append] at this
      exact List.length_eq_zero_iff.mp (by lia)
    subst this
    exact ⟨be, rfl, rfl, P, B⟩
  | x :: ns, D, n, be, A, rest, B, P, hn, ht, hd, hA => by
    rw [List.length_cons] at hn
    obtain ⟨A1, h1⟩ := step_text D x
    obtain ⟨A2, h2⟩ := fold_text ns (drawStep D x)
    have eA : A = A1 ++ A2 := by
      have e : (ns.foldl drawStep (drawStep D x)).text = D.text ++ A := hA
      rw [h2, h1, List.append_assoc] at e
      exact (List.append_cancel_left e).symm
    subst eA
    rw [List.append_assoc] at hd
    obtain ⟨be1, st1, es1, P1⟩ := read_step B (by lia) P be ht hd h1
    obtain ⟨ht1, hd1⟩ := take_app D.text A1 (A2 ++ rest) F ht hd
    rw [← h1] at ht1 hd1
    obtain ⟨be2, st2, es2, P2, B2⟩ := read_all ns (drawStep D x) (n + 1) be1 A2 rest (step_bound B (by lia) x) P1 (by lia) ht1 hd1 h2
    rw [h1, List.length_append] at st2
    refine ⟨be2, ?_, ?_, P2, ?_⟩
    · rw [esc_append A2 A1 D.text.length false es1]
      exact st1.append st2
    · rw [escEnd_append _ _ _ es1]; exact es2
    · have : n + (x :: ns).length = n + 1 + ns.length := by rw [List.length_cons]; lia
      rw [this]; exact B2

theorem PO.zero : PO draw0 := ⟨.root (by simp), ⟨by simp [depTs, depT], trivial⟩, List.pairwise_singleton _ _, rfl⟩
/-- what is drawn is read back -/
theorem plain (ns : List Nat) (hn : ns.length ≤ 12) : ∃ s' pile' m, (drawF ns).text.length ≤ 2 ^ 15 ∧ escEnd false (drawF ns).text = false ∧ Steps (drawF ns).text (escGo 0 false (drawF ns).text) rs0 s' ∧ s'.leads.length = m + 1 ∧ m ≤ 1000 ∧ s'.pile.length ≤ 2 ^ 18 ∧
    Closes (leafP (drawF ns).text 6 (drawF ns).text.length) m s'.pile pile' ∧ depTs pile' ≤ 60 ∧ (.i 259 :: (pile' ++ [leafP (drawF ns).text 0 (drawF ns).text.length])) = endSpine (drawF ns) := by
  have hall := read_all (F := (drawF ns).text) ns draw0 0 0 (drawF ns).text [] .zero .zero (by lia) rfl (by rw [List.append_nil]; rfl) (List.nil_append _).symm
  obtain ⟨be, st, es, P, B⟩ := hall
  rw [Nat.zero_add] at B
  have eD : ns.foldl drawStep draw0 = drawF ns := rfl
  rw [eD] at st P B
  generalize drawF ns = D at *
  have bt := B.text
  have bs := B.sp
  have bl := B.leads
  have bn := List.length_pos_iff.mpr B.ne
  have hsm := spine_small B.spine (by lia) (by lia)
  obtain ⟨c1, c2⟩ := P.sp.closeN (six := leafT 6 (rowOf D.text) 0) (D.spine.length - 1) (by lia)
  have cl := closeN_len (leafT 6 (rowOf D.text) 0) (D.spine.length - 1) D.spine (by lia)
  have dp := DepS.closeN (six := leafT 6 (rowOf D.text) 0) (by rw [leaf_dep]; decide) (D.spine.length - 1) P.dep (by lia)
  have e6 : ∀ n, leafP D.text n D.text.length = leafT n (rowOf D.text) 0 := fun n => by unfold leafP; rw [List.take_length, P.col]
  refine ⟨relS D be, flatS (closeN (leafT 6 (rowOf D.text) 0) (D.spine.length - 1) D.spine), D.spine.length - 1, by lia, es, st, ?_, by lia, ?_, ?_, ?_, ?_⟩
  · show (D.leads.map wsl).length = _
    rw [List.length_map]; lia
  · show (flatS D.spine).length ≤ _
    lia
  · rw [e6]; exact c2
  · have := dp.flat; lia
  · rw [e6]
    unfold endSpine
    generalize closeN (leafT 6 (rowOf D.text) 0) (D.spine.length - 1) D.spine = sp at c1 cl ⊢
    cases c1 with
    | root h => simp [flatS]
    | blk h r =>
      cases r with
      | root => simp at cl; lia
      | blk => simp at cl; lia
end Mine
end

noncomputable section -- L6c
open PySem PySem.W PySem.Calls PyProof.Rows
set_option maxRecDepth 100000
set_option autoImplicit false
namespace Mine

theorem n_sum (p : Params) : nsIn (hd.heap_1 p) mainGlobals "sum" = some none := by kernel_rfl
theorem n_min (p : Params) : nsIn (hd.heap_1 p) mainGlobals "min" = some none := by kernel_rfl
theorem b_sum : bootBuiltins "sum" = some (.builtin "sum") := by decide +kernel
theorem b_min : bootBuiltins "min" = some (.builtin "min") := by decide +kernel
noncomputable def wRest : ST := sSeq (sTgt (tPair 1 2) (eApp fDraw (esCons (eBin .Add (eList (esCons (eInt 11725) (esCons (eInt 12581) (esCons (eInt 5581) esNil)))) (eNm 0)) esNil))) (sSeq (sRet (eCmp .Eq (eApp fRead (esCons (eNm 1) esNil)) (eList (esCons (eNm 2) esNil)))) sPass)
theorem tb_rest {W : Wd} (h : Is W) (X : Fx) (ok : X.Ok W 4) (hcs : X.cs = scopeOf W.w.params 172) (hn : X.names = (["sums", "text", "tree"] : List Str)) : TB W X (bodyOf W.w.params 172).tail wRest := by
  obtain ⟨A₀, base, outer, h₀, L, cn, cs, a, ccd, names, os, clx⟩ := X
  obtain rfl : cs = _ := hcs
  obtain rfl : names = _ := hn
  unfold wRest
  refine tb_cons ?_ ?_
  · refine t1_pair ?_ (ty_pair ok rfl rfl) rfl rfl
    · refine te_app ok (g_K h k_draw (by kernel_rfl) (by rfl)) (.fn _ (keep_Draw h)) (of_Draw h (ok.mono (by decide))) ?_
      refine tg_cons ⟨rfl, rfl⟩ ?_
      refine ta_cons ?_ ta_nil rfl
      refine te_bin ?_ (te_nm ok _ 0 rfl)
      refine te_list ?_
      refine ta_cons (te_int _ _ _) ?_ rfl
      refine ta_cons (te_int _ _ _) ?_ rfl
      exact ta_cons (te_int _ _ _) ta_nil rfl
  · refine tb_cons ?_ tb_nil
    refine t1_ret ?_
    refine te_cmp ok ?_ ?_ rfl
    · refine te_app ok (g_K h k_read (by kernel_rfl) (by rfl)) (.fn _ (keep_Read h)) (of_Read h ok) ?_
      refine tg_cons ⟨rfl, rfl⟩ ?_
      exact ta_cons (te_nm ok _ 1 rfl) ta_nil rfl
    · refine te_list ?_
      exact ta_cons (te_nm ok _ 2 rfl) ta_nil rfl

theorem rest_ok {hp : List O} {k0 : Nat} {ks : List Nat} (hk : hp[k0]? = some (O.list (vis ks))) (hl : ks.length ≤ 3) {Q : Out → Loc → List O → Prop} (k : ∀ l h, Q (.ret (.bool true)) l h) : wRest [some (.ref k0), none, none] hp Q := by
  unfold wRest
  refine ⟨by simp, _, rfl, ?_⟩
  refine ⟨_, _, ⟨snoc_get _ _, snoc_old hk, by rw [vis_len]; simp; lia⟩, ?_⟩
  have e : [V.int 11725, .int 12581, .int 5581] ++ vis ks = vis ([11725, 12581, 5581] ++ ks) := by unfold vis; simp
  rw [e]
  refine c_draw (ns := [11725, 12581, 5581] ++ ks) (snoc_get _ _) (by simp; lia) fun h1 kt kr et tr => ?_
  refine ⟨_, _, .inl et, ?_⟩
  obtain ⟨s', pile', m, p1, p2, p3, p4, p5, p6, p7, p8, p9⟩ := plain ([11725, 12581, 5581] ++ ks) (by simp; lia)
  refine ⟨_, rfl, ?_⟩
  refine c_read p1 p2 p3 p4 p5 p6 p7 p8 fun h2 kr2 keep tr2 => ?_
  rw [p9] at tr2
  refine ⟨_, rfl, by simp, ?_⟩
  have hd : depT (.l [.l (endSpine (drawF ([11725, 12581, 5581] ++ ks)))]) ≤ 64 := by
    rw [← p9, depT, depTs_one, depT, depTs, depTs_append, depTs_one, depT]
    have : depT (leafP (drawF ([11725, 12581, 5581] ++ ks)).text 0 (drawF ([11725, 12581, 5581] ++ ks)).text.length) = 1 := by unfold leafP; exact leaf_dep _ _ _
    lia
  have tr3 : TV (h2 ++ [O.list [.ref kr]]) (fun _ => False) (.ref kr2) (.l [.l (endSpine (drawF ([11725, 12581, 5581] ++ ks)))]) := tr2.step (fun _ _ _ e => snoc_old e) fun _ _ q => q
  have tr4 : TV (h2 ++ [O.list [.ref kr]]) (fun _ => False) (.ref h2.length) (.l [.l (endSpine (drawF ([11725, 12581, 5581] ++ ks)))]) := .l (fun q => q) (snoc_get _ _) (.one (tr.step (fun k o _ e => snoc_old (keep k o e)) fun _ _ q => q))
  refine ⟨_, _, ⟨tr3.dv, tr4.dv, shaped_T hd, shaped_T hd, mix_T _ _⟩, ?_⟩
  rw [same_T]
  exact k _ _
end Mine
end

noncomputable section -- L6d
open PySem PySem.W PySem.Calls PyProof.Rows
set_option maxRecDepth 100000
set_option autoImplicit false
namespace Mine

theorem law_ok {W : Wd} (h : Is W) {X : Fx} (ok : X.Ok W 4) (hcs : X.cs = scopeOf W.w.params 172) (hn : X.names = (["sums", "text", "tree"] : List Str)) {g : Gx} {s : Shared} {E : Value → Shared → Prop} {c ax : Addr} {co : Obj} {vs : List Value} {ns : List Int}
    (hcl : X.cl = [(("script" : Str), c)]) (hm : (c, co) ∈ g.ext) (hco : co.data = .cell (some (.ref ax))) (hl : X.h₀.IsList ax vs.toArray) (hi : IntsAre vs ns) (hsz : vs.length ≤ 63) (I : Inv W X g [] [none, none, none] [] s) :
    wpAny W.M X.A (execs (bodyOf W.w.params 172) X.env) (PostS W X g [] (fun o _ _ => o = .ret (.bool true))) E s := by
  have tb := tb_rest h X ok hcs hn
  obtain ⟨A₀, base, outer, h₀, L, cn, cs, a, ccd, names, os, clx⟩ := X
  obtain rfl : cs = _ := hcs
  obtain rfl : names = _ := hn
  obtain rfl : clx = _ := hcl
  refine wpAny_execs_cons ?_
  refine wpAny_mono (asg_sums (cl := [(("script" : Str), c)]) (iy := 0) (PS := fun o l h => o = .next ∧ wRest l h fun o _ _ => o = .ret (.bool true)) ok (g_B h n_range b_range (by decide) (by kernel_rfl) (by rfl)) (g_B h n_min b_min (by decide) (by kernel_rfl) (by rfl)) (g_B h n_len b_len (by decide) (by kernel_rfl) (by rfl)) rfl hm hco hl hi hsz ?a (by rfl)
    (by rw [h.K]; exact n_sum _) b_sum (by decide) ?b ?c1 ?d ?e ?f ?g ?h1 ?i ?j ?k ?l ?m rfl ?p I ?n) (fun f s' h' => ?o) fun _ _ x => x
  case a => kernel_rfl
  case b => rfl
  case c1 => rfl
  case d => decide
  case e => rfl
  case f => decide
  case g => rfl
  case h1 => kernel_rfl
  case i => kernel_rfl
  case j => rfl
  case k => rfl
  case l => rfl
  case m => intro x; rfl
  case n => exact fun ks hks => ⟨rfl, rest_ok (k0 := 0) (ks := ks) rfl hks fun _ _ => rfl⟩
  case o =>
    obtain ⟨ρ₁, o, l₁, hp₁, x₁, r₁, I₁, rfl, h₁⟩ := h'
    cases r₁
    exact wpAny_mono (tb.h g E ρ₁ _ hp₁ s' _ I₁ h₁) (fun _ _ h => PostS.later x₁ h) fun _ _ x => x
  case p => kernel_rfl
end Mine
end

noncomputable section -- L6e
open PySem PySem.W PySem.Calls PyProof.Rows
set_option maxRecDepth 100000
set_option autoImplicit false
namespace Mine

theorem scope_cells (p : Params) (n : Nat) : cellsFrom n (scopeOf p 172).names [] = [(("script" : Str), n)] := by kernel_rfl
theorem scope_kind (p : Params) : (scopeOf p 172).kind = .function := by kernel_rfl
theorem scope_names (p : Params) : (["sums", "text", "tree"] : List Str).all (fun x => (scopeOf p 172).names.lookup x == some .local && !(x == ("__debug__" : Str))) = true := by kernel_rfl
theorem join {w : World} {s₁ : Shared} {mg mb : Str → Option Value} {loose : List Str} {fa : Addr} {cd : Value} {nm : Str} {cs : Scope} {body : List Stmt} {mean : ExcName → Option Value} {m cm : Str → Option Value} {h₁ : Heap} {tk : Nat} {co : Obj} {ax : Addr} {vs : List Value} {ns : List Int} {Q : Flow → Shared → Prop} {E : Value → Shared → Prop}
    (hb : body = bodyOf w.params 172) (hcs : cs = scopeOf w.params 172) (KX : (hd.heap_1 w.params).In s₁.heap) (T : Top view loose mean mg mb s₁.heap) (K0 : Below callerA s₁.heap [] s₁.heap) (hg : s₁.gens = #[])
    (F : Fr s₁.heap s₁.heap.objs.size h₁ m) (N0 : News s₁.heap s₁.heap.objs.size h₁ [(s₁.heap.objs.size + 1, co)]) (X0 : CellsAre cm (cellsFrom (s₁.heap.objs.size + 1) cs.names []) [(s₁.heap.objs.size + 1, co)]) (hcm : cm ("script" : Str) = some (.ref ax))
    (hL : s₁.heap.IsList ax vs.toArray) (hI : IntsAre vs ns) (hn : vs.length ≤ 63)
    (hQ : ∀ s', (∀ b o, s₁.heap.get? b = some o → s'.heap.get? b = some o) → AllBare s'.gens → s'.os = s₁.os → Q (.ret (.bool true)) s') :
    wpAny (model PySem.Challenge.rw_uq0020_01.row.prog w) (callerA.deeper (envOfC nm cs s₁.heap.objs.size fa cd)) (execs body (envOfC nm cs s₁.heap.objs.size fa cd)) Q E { s₁ with heap := h₁, toks := tk } := by
  subst hb hcs
  let W : Wd := { prog := PySem.Challenge.rw_uq0020_01.row.prog, w := w, K := hd.heap_1 w.params, p := view, loose := loose, mean := mean, mg := mg, mb := mb, C := 113 }
  have hW : Is W := ⟨rfl, rfl⟩
  let X : Fx := { A₀ := callerA, base := s₁.heap, outer := [], h₀ := s₁.heap, L := s₁.heap.objs.size, cn := nm, cs := scopeOf w.params 172, a := fa, ccd := cd, names := ["sums", "text", "tree"], os := s₁.os, cl := cellsFrom (s₁.heap.objs.size + 1) (scopeOf w.params 172).names [] }
  have ok : X.Ok W 4 := {
    B := fun _ => K0
    K := KX
    T := T
    kind := scope_kind w.params
    depth := by show callerA.depth + 1 + 4 < recursionLimit; decide
    units := by show callerA.units + 3 + 8 * 4 + 100 < cLine; decide
    handled := rfl
    names := fun i x hx => by
      have := List.all_eq_true.mp (scope_names w.params) x (List.mem_of_getElem? hx)
      simp only [Bool.and_eq_true, beq_iff_eq, Bool.not_eq_eq_eq_not, Bool.not_true] at this
      exact this
    nodup := by show (["sums", "text", "tree"] : List Str).Nodup; decide
    low := Nat.le_refl _ }
  have hcd : co.data = .cell (some (.ref ax)) := by
    rw [scope_cells] at X0
    cases X0 with
    | cons h _ => rw [h, hcm]
  have I : Inv W X ⟨[(s₁.heap.objs.size + 1, co)], []⟩ [] [none, none, none] [] { s₁ with heap := h₁, toks := tk } := by
    refine ⟨⟨m, F, ?_⟩, ⟨rfl, ?_, ?_, ?_, ?_⟩, rfl, .of_eq hg, fun _ h => nomatch h⟩
    · intro i x v _ hv
      match i with
      | 0 => cases hv
      | 1 => cases hv
      | 2 => cases hv
      | n + 3 => cases hv
    · intro k p o h; cases h
    · intro k p h; cases h
    · intro j k p q _ h; cases h
    · intro e he
      have := N0 e he
      exact ⟨this.1, this.2.1, this.2.2, fun k p h => by cases h⟩
  refine wpAny_mono (law_ok hW ok rfl rfl (g := ⟨[(s₁.heap.objs.size + 1, co)], []⟩) (c := s₁.heap.objs.size + 1) (scope_cells w.params _) (.head _) hcd hL hI hn I) (fun f s' h' => ?_) fun _ _ x => x
  obtain ⟨ρ', o, l', hp', _, r, I', rfl⟩ := h'
  obtain ⟨v', rfl, rv⟩ := r
  cases rv
  exact hQ s' I'.old I'.gens I'.os
end Mine
end

open PySem PySem.W PySem.Calls PyProof.Rows
theorem PySem.Challenge.cw_uq0020_01_holds : PySem.Challenge.rw_uq0020_01.Holds := by
  refine Mine.hd ⟨Mine.left_of_boot "special-get-raises" (Mine.boot 4886 rfl) Mine.leftF Mine.leftT, ?_⟩
  k_fill
  intro w s₀ s₁ mg mb G Y fa o pm cd doc dV kV ho hdd hcd hD hmg hg args vals as hpre hlay hrd hwl hlo
  have KX := kIn_of Y
  have GX := (Ground.X G).1
  have V := (Ground.X G).2
  refine Ground.open G ?_
  intro T B D TE TW
  try (refine guard_noD D (by decide +kernel) ?_; clear D)
  obtain ⟨_, _, M⟩ := bmod_of_top T
  have TA := at_of_top T
  try (obtain ⟨_, _, he, B0⟩ := based_of_top T rfl hmg ho hdd; have he' : cd = _ := he; subst he'; clear he)
  clear hmg
  wrow_args hpre hlay hrd hwl hlo
  refine enter_call ?_
  w_top on
  have K0 := below_caller (Top.heap T)
  w_call any ho hdd hcd hD T F
  refine Mine.join ?hb ?hcs KX T K0 hg F (by assumption) (by assumption) ?hcm (by assumption) (by assumption) ?hn ?hQ
  case hb => kernel_rfl
  case hcs => kernel_rfl
  case hcm => rfl
  case hn =>
    have e := IntsAre.length (by assumption : IntsAre _ _)
    omega
  case hQ =>
    intro s' keep bare os
    exact ⟨.inl ⟨.bool true, .bool true, [], rfl, fun _ => rfl, ReadsW.bool true, by with_unfolding_all rfl, fun _ => ⟨List.nodup_nil, fun _ h => nomatch h⟩⟩, .of_keep keep, os, bare⟩
