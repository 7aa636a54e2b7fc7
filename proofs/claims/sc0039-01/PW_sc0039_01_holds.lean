import PyProof.Rows.All
import Wide.All
import OpenK.AllK
import Wide.FinOn
import Lean
import PySem.Challenge.RW_sc0039_01

open PySem PySem.W PyProof.Rows
set_option Elab.async false
set_option linter.unusedVariables false
set_option linter.unusedSimpArgs false
set_option genInjectivity false
set_option genSizeOfSpec false

section
set_option maxRecDepth 100000
set_option maxHeartbeats 8000000
namespace Mine
open_top hd for PySem.Challenge.rw_sc0039_01
end Mine
end

section
namespace Mine
open PySem.Calls

/-! pure data, and how a heap bears it -/
inductive D where
  | none
  | bool (b : Bool)
  | int (i : Int)
  | str (s : PySem.Str)
  | list (xs : List D)
  | thing (u : Value)

mutual
noncomputable def RD (h : Heap) (W : List Addr) : D → Value → Prop
  | .none, v => v = .none
  | .bool b, v => v = .bool b
  | .int i, v => ∃ t, v = .int i t
  | .str s, v => ∃ t, v = .str s t
  | .thing u, v => v = u
  | .list xs, v => ∃ a vs, v = .ref a ∧ a ∉ W ∧ h.IsList a vs.toArray ∧ RDs h W xs vs
noncomputable def RDs (h : Heap) (W : List Addr) : List D → List Value → Prop
  | [], vs => vs = []
  | x :: xs, vs => ∃ v r, vs = v :: r ∧ RD h W x v ∧ RDs h W xs r
end

/-- the same, the outermost list may be one that is written to -/
noncomputable def RT (h : Heap) (W : List Addr) : D → Value → Prop
  | .list xs, v => ∃ a vs, v = .ref a ∧ h.IsList a vs.toArray ∧ RDs h W xs vs
  | d, v => RD h W d v

theorem RD.toRT {h : Heap} {W : List Addr} {d : D} {v : Value} (r : RD h W d v) : RT h W d v := by
  cases d with
  | list xs => unfold RD at r; obtain ⟨a, vs, e, _, hl, hs⟩ := r; exact ⟨a, vs, e, hl, hs⟩
  | _ => exact r

mutual
theorem RD.mono {h h' : Heap} {W W' : List Addr} (hk : ∀ a items, a ∉ W → h.IsList a items → h'.IsList a items) (hw : ∀ a, a ∈ W' → a ∈ W) :
    ∀ (d : D) (v : Value), RD h W d v → RD h' W' d v
  | .none, _, r => r
  | .bool _, _, r => r
  | .int _, _, r => r
  | .str _, _, r => r
  | .thing _, _, r => r
  | .list xs, v, r => by
    unfold RD at r ⊢
    obtain ⟨a, vs, e, ha, hl, hs⟩ := r
    exact ⟨a, vs, e, fun x => ha (hw a x), hk a _ ha hl, RDs.mono hk hw xs vs hs⟩
theorem RDs.mono {h h' : Heap} {W W' : List Addr} (hk : ∀ a items, a ∉ W → h.IsList a items → h'.IsList a items) (hw : ∀ a, a ∈ W' → a ∈ W) :
    ∀ (xs : List D) (vs : List Value), RDs h W xs vs → RDs h' W' xs vs
  | [], _, r => by unfold RDs at r ⊢; exact r
  | x :: xs, vs, r => by
    unfold RDs at r ⊢
    obtain ⟨v, r', e, h1, h2⟩ := r
    exact ⟨v, r', e, RD.mono hk hw x v h1, RDs.mono hk hw xs r' h2⟩
end
theorem isList_keep {h h' : Heap} (hk : ∀ b o, h.get? b = some o → h'.get? b = some o) {a : Addr} {items : Array Value} (x : h.IsList a items) : h'.IsList a items :=
  let ⟨o, ho, r⟩ := x; ⟨o, hk a o ho, r⟩
theorem RD.keep {h h' : Heap} {W : List Addr} (hk : ∀ b o, h.get? b = some o → h'.get? b = some o) {d : D} {v : Value} (r : RD h W d v) : RD h' W d v :=
  RD.mono (fun _ _ _ x => isList_keep hk x) (fun _ x => x) d v r
theorem RDs.keep {h h' : Heap} {W : List Addr} (hk : ∀ b o, h.get? b = some o → h'.get? b = some o) {d : List D} {v : List Value} (r : RDs h W d v) : RDs h' W d v :=
  RDs.mono (fun _ _ _ x => isList_keep hk x) (fun _ x => x) d v r
theorem RT.keep {h h' : Heap} {W : List Addr} (hk : ∀ b o, h.get? b = some o → h'.get? b = some o) {d : D} {v : Value} (r : RT h W d v) : RT h' W d v := by
  cases d with
  | list xs => obtain ⟨a, vs, e, hl, hs⟩ := r; exact ⟨a, vs, e, isList_keep hk hl, hs.keep hk⟩
  | none => exact RD.keep (W := W) (d := .none) hk r
  | bool b => exact RD.keep (W := W) (d := .bool b) hk r
  | int b => exact RD.keep (W := W) (d := .int b) hk r
  | str b => exact RD.keep (W := W) (d := .str b) hk r
  | thing b => exact RD.keep (W := W) (d := .thing b) hk r
theorem RDs.loose {h : Heap} {W : List Addr} {xs : List D} {vs : List Value} (r : RDs h W xs vs) : RDs h [] xs vs := RDs.mono (fun _ _ _ x => x) (fun _ x => absurd x List.not_mem_nil) _ _ r
theorem RD.loose {h : Heap} {W : List Addr} {xs : D} {vs : Value} (r : RD h W xs vs) : RD h [] xs vs := RD.mono (fun _ _ _ x => x) (fun _ x => absurd x List.not_mem_nil) _ _ r
theorem RT.loose {h : Heap} {W : List Addr} {d : D} {v : Value} (r : RT h W d v) : RD h [] d v := by
  cases d with
  | list xs => obtain ⟨a, vs, e, hl, hs⟩ := r; unfold RD; exact ⟨a, vs, e, List.not_mem_nil, hl, hs.loose⟩
  | none => exact RD.loose (W := W) (xs := .none) r
  | bool b => exact RD.loose (W := W) (xs := .bool b) r
  | int b => exact RD.loose (W := W) (xs := .int b) r
  | str b => exact RD.loose (W := W) (xs := .str b) r
  | thing b => exact RD.loose (W := W) (xs := .thing b) r

section
variable {h : Heap} {W : List Addr}
theorem RDs.nil : RDs h W [] [] := by unfold RDs; rfl
theorem RDs.cons {x : D} {xs : List D} {v : Value} {vs : List Value} (a : RD h W x v) (b : RDs h W xs vs) : RDs h W (x :: xs) (v :: vs) := by unfold RDs; exact ⟨v, vs, rfl, a, b⟩
theorem RDs.inv_nil {vs : List Value} (r : RDs h W [] vs) : vs = [] := by unfold RDs at r; exact r
theorem RDs.inv_cons {x : D} {xs : List D} {vs : List Value} (r : RDs h W (x :: xs) vs) : ∃ v r', vs = v :: r' ∧ RD h W x v ∧ RDs h W xs r' := by unfold RDs at r; exact r
theorem RDs.length : ∀ {xs : List D} {vs : List Value}, RDs h W xs vs → xs.length = vs.length
  | [], vs, r => by rw [r.inv_nil]; rfl
  | x :: xs, vs, r => by obtain ⟨v, r', rfl, _, h2⟩ := r.inv_cons; simp [RDs.length h2]
theorem RDs.get : ∀ {xs : List D} {vs : List Value}, RDs h W xs vs → ∀ {i : Nat} {d : D}, xs[i]? = some d → ∃ v, vs[i]? = some v ∧ RD h W d v
  | [], _, _, i, d, e => by simp at e
  | x :: xs, vs, r, i, d, e => by
    obtain ⟨v, r', rfl, h1, h2⟩ := r.inv_cons
    cases i with
    | zero => simp at e; subst e; exact ⟨v, by simp, h1⟩
    | succ i => simp at e ⊢; exact RDs.get h2 e
theorem RDs.append : ∀ {xs ys : List D} {vs us : List Value}, RDs h W xs vs → RDs h W ys us → RDs h W (xs ++ ys) (vs ++ us)
  | [], ys, vs, us, r, r2 => by rw [r.inv_nil]; exact r2
  | x :: xs, ys, vs, us, r, r2 => by
    obtain ⟨v, r', rfl, h1, h2⟩ := r.inv_cons
    exact RDs.cons h1 (RDs.append h2 r2)
theorem RDs.take : ∀ {xs : List D} {vs : List Value} (n : Nat), RDs h W xs vs → RDs h W (xs.take n) (vs.take n)
  | [], vs, n, r => by rw [r.inv_nil]; simp; exact RDs.nil
  | x :: xs, vs, n, r => by
    obtain ⟨v, r', rfl, h1, h2⟩ := r.inv_cons
    cases n with
    | zero => simp; exact RDs.nil
    | succ n => simp; exact RDs.cons h1 (RDs.take n h2)
theorem RDs.drop : ∀ {xs : List D} {vs : List Value} (n : Nat), RDs h W xs vs → RDs h W (xs.drop n) (vs.drop n)
  | [], vs, n, r => by rw [r.inv_nil]; simp; exact RDs.nil
  | x :: xs, vs, n, r => by
    obtain ⟨v, r', rfl, h1, h2⟩ := id r.inv_cons
    cases n with
    | zero => simpa using r
    | succ n => simp; exact RDs.drop n h2
end

/-! what a call may do to the rest of the state -/
noncomputable def GX (q : Bool) (g g' : Array GenState) : Prop := match q with
  | true => g' = g
  | false => ∃ l : List GenState, g' = g ++ l.toArray ∧ ∀ y ∈ l, y.bare = true
theorem GX.refl (q : Bool) (g : Array GenState) : GX q g g := by
  cases q with
  | true => rfl
  | false => exact ⟨[], by simp, fun _ h => nomatch h⟩
theorem GX.trans {q : Bool} {g g' g'' : Array GenState} (x : GX q g g') (y : GX q g' g'') : GX q g g'' := by
  cases q with
  | true => exact Eq.trans y x
  | false =>
    obtain ⟨l, rfl, hl⟩ := x
    obtain ⟨m, rfl, hm⟩ := y
    refine ⟨l ++ m, by simp, fun z hz => ?_⟩
    rcases List.mem_append.mp hz with h | h
    · exact hl z h
    · exact hm z h
theorem GX.weak {q : Bool} {g g' : Array GenState} (x : GX true g g') : GX q g g' := by
  cases q with
  | true => exact x
  | false => rw [show g' = g from x]; exact GX.refl ..

structure Ext (q : Bool) (s s' : Shared) : Prop where
  keep : ∀ b o, s.heap.get? b = some o → s'.heap.get? b = some o
  gens : GX q s.gens s'.gens
  os : s'.os = s.os
  drawn : s'.drawn = s.drawn
theorem Ext.refl (q : Bool) (s : Shared) : Ext q s s := ⟨fun _ _ e => e, GX.refl .., rfl, rfl⟩
theorem Ext.trans {q : Bool} {s s' s'' : Shared} (x : Ext q s s') (y : Ext q s' s'') : Ext q s s'' :=
  ⟨fun b o e => y.keep b o (x.keep b o e), x.gens.trans y.gens, y.os.trans x.os, y.drawn.trans x.drawn⟩
theorem Ext.weak {q : Bool} {s s' : Shared} (x : Ext true s s') : Ext q s s' := ⟨x.keep, x.gens.weak, x.os, x.drawn⟩
theorem Ext.mk' {q : Bool} {s : Shared} {h' : Heap} {tk : Nat} (hk : ∀ b o, s.heap.get? b = some o → h'.get? b = some o) : Ext q s { s with heap := h', toks := tk } := ⟨hk, GX.refl .., rfl, rfl⟩
theorem Ext.toks {q : Bool} {s : Shared} {tk : Nat} : Ext q s { s with toks := tk } := ⟨fun _ _ e => e, GX.refl .., rfl, rfl⟩
theorem Ext.push {q : Bool} {s : Shared} {o : Obj} : Ext q s { s with heap := s.heap.push o } := ⟨fun _ _ e => Heap.get?_push_of_some _ e, GX.refl .., rfl, rfl⟩
theorem Ext.keeps {s s' : Shared} (x : Ext true s s') : Keeps s s' := by
  refine ⟨s'.heap, s'.toks, ?_, x.keep⟩
  have h1 := x.os
  have h2 := x.drawn
  have h3 : s'.gens = s.gens := x.gens
  cases s; cases s'
  simp only at h1 h2 h3
  subst h1 h2 h3
  rfl

/-! the state of a frame -/
inductive LV where
  | unset
  | val (d : D)
  | own (a : Addr) (xs : List D)
noncomputable def LV.w : LV → List Addr
  | .own a _ => [a]
  | _ => []
noncomputable def Ws (σ : List LV) : List Addr := σ.flatMap LV.w

noncomputable def Look (env : Env) (h : Heap) (x : PySem.Str) (v : Value) : Prop :=
  (env.kindOf x = some .local ∧ ∃ m, h.Ns env.locals m ∧ m x = some v) ∨
  ((env.kindOf x = some .cell ∨ env.kindOf x = some .free) ∧ ∃ c, env.cells.lookup x = some c ∧ h.IsCell c (some v))

noncomputable def VarOK (env : Env) (h : Heap) (W : List Addr) (x : PySem.Str) : LV → Prop
  | .unset => True
  | .val d => ∃ v, Look env h x v ∧ RD h W d v
  | .own a xs => ∃ vs, Look env h x (.ref a) ∧ h.PlainList a vs.toArray ∧ RDs h W xs vs

structure Rel (env : Env) (vars : List PySem.Str) (h₀ : Heap) (σ : List LV) (h : Heap) : Prop where
  keep : ∀ b o, h₀.get? b = some o → h.get? b = some o
  ns : ∃ m, h.Ns env.locals m
  newL : h₀.get? env.locals = none
  cells : ∀ x, env.kindOf x = some .cell → ∃ c v, env.cells.lookup x = some c ∧ h.IsCell c v
  cellsNew : env.func ≠ none → ∀ x c, env.cells.lookup x = some c → h₀.get? c = none
  apart : ∀ x y c, env.cells.lookup x = some c → env.cells.lookup y = some c → x = y
  vals : ∀ (i : Nat) x lv, vars[i]? = some x → σ[i]? = some lv → VarOK env h (Ws σ) x lv
  ownNew : ∀ a ∈ Ws σ, h₀.get? a = none
  nd : (Ws σ).Nodup
  len : σ.length = vars.length

theorem Look.keep {env : Env} {h h' : Heap} {x : PySem.Str} {v : Value} (hk : ∀ b o, h.get? b = some o → h'.get? b = some o) (l : Look env h x v) : Look env h' x v := by
  rcases l with ⟨k, m, hn, hm⟩ | ⟨k, c, hc, hv⟩
  · exact .inl ⟨k, m, hn.keeps hk, hm⟩
  · exact .inr ⟨k, c, hc, hv.keeps hk⟩
theorem VarOK.keep {env : Env} {h h' : Heap} {W : List Addr} {x : PySem.Str} {lv : LV} (hk : ∀ b o, h.get? b = some o → h'.get? b = some o) (o : VarOK env h W x lv) : VarOK env h' W x lv := by
  cases lv with
  | unset => trivial
  | val d => obtain ⟨v, l, r⟩ := o; exact ⟨v, l.keep hk, r.keep hk⟩
  | own a xs => obtain ⟨vs, l, hl, r⟩ := o; exact ⟨vs, l.keep hk, hl.at (hk _), r.keep hk⟩
theorem Rel.ext {env : Env} {vars : List PySem.Str} {h₀ : Heap} {σ : List LV} {h h' : Heap} (R : Rel env vars h₀ σ h) (hk : ∀ b o, h.get? b = some o → h'.get? b = some o) : Rel env vars h₀ σ h' where
  keep := fun b o e => hk b o (R.keep b o e)
  ns := let ⟨m, hn⟩ := R.ns; ⟨m, hn.keeps hk⟩
  newL := R.newL
  cells := fun x hx => let ⟨c, v, h1, h2⟩ := R.cells x hx; ⟨c, v, h1, h2.keeps hk⟩
  cellsNew := R.cellsNew
  apart := R.apart
  vals := fun i x lv h1 h2 => (R.vals i x lv h1 h2).keep hk
  ownNew := R.ownNew
  nd := R.nd
  len := R.len
theorem list_via {h h' : Heap} (hL : ∀ a (o : Obj), (∃ i n, o.data = .seq i n) → h.get? a = some o → h'.get? a = some o) {a : Addr} {items : Array Value} (x : h.IsList a items) : h'.IsList a items :=
  let ⟨o, ho, hc, n, hd⟩ := x; ⟨o, hL a o ⟨_, _, hd⟩ ho, hc, n, hd⟩
theorem plain_via {h h' : Heap} (hL : ∀ a (o : Obj), (∃ i n, o.data = .seq i n) → h.get? a = some o → h'.get? a = some o) {a : Addr} {items : Array Value} (x : h.PlainList a items) : h'.PlainList a items :=
  let ⟨n, e⟩ := x; ⟨n, hL a _ ⟨_, _, rfl⟩ e⟩
theorem ne_of_kinds {h : Heap} {a b : Addr} {items : Array Value} (x : h.IsList a items) {o : Obj} (ho : h.get? b = some o) (hd : ∀ i n, o.data ≠ .seq i n) : a ≠ b := by
  rintro rfl
  obtain ⟨o', ho', _, n, hd'⟩ := x
  rw [ho'] at ho
  cases ho
  exact hd _ _ hd'
theorem ns_list_ne {h : Heap} {a b : Addr} {items : Array Value} {m : PySem.Str → Option Value} (x : h.IsList a items) (n : h.Ns b m) : a ≠ b := by
  obtain ⟨o, es, ep, ho, hd, _⟩ := n
  exact ne_of_kinds x ho fun i n e => by rw [hd] at e; cases e
theorem cell_list_ne {h : Heap} {a b : Addr} {items : Array Value} {v : Option Value} (x : h.IsList a items) (n : h.IsCell b v) : a ≠ b := by
  obtain ⟨o, ho, hd⟩ := n
  exact ne_of_kinds x ho fun i n e => by rw [hd] at e; cases e
theorem ns_cell_ne {h : Heap} {a b : Addr} {m : PySem.Str → Option Value} {v : Option Value} (x : h.Ns a m) (n : h.IsCell b v) : a ≠ b := by
  rintro rfl
  obtain ⟨o, es, ep, ho, hd, _⟩ := x
  obtain ⟨o', ho', hd'⟩ := n
  rw [ho] at ho'
  cases ho'
  rw [hd] at hd'; cases hd'
theorem isList_same {h h' : Heap} {a b : Addr} {items : Array Value} (x : h.IsList a items) (hs : Heap.SameBut b h h') (hab : a ≠ b) : h'.IsList a items := x.extBut hs.extBut hab

theorem mem_Ws_set {σ : List LV} {i : Nat} {lv : LV} {a : Addr} (h : a ∈ Ws (σ.set i lv)) : a ∈ lv.w ∨ a ∈ Ws σ := by
  unfold Ws at h ⊢
  obtain ⟨x, hx, ha⟩ := List.mem_flatMap.mp h
  rcases List.mem_or_eq_of_mem_set hx with h1 | h1
  · exact .inr (List.mem_flatMap.mpr ⟨x, h1, ha⟩)
  · exact .inl (h1 ▸ ha)
theorem Ws_cons (lv : LV) (σ : List LV) : Ws (lv :: σ) = lv.w ++ Ws σ := rfl
theorem Ws_set_sub {lv : LV} (hw : lv.w = []) : ∀ (σ : List LV) (i : Nat), (Ws (σ.set i lv)).Sublist (Ws σ)
  | [], i => by simp
  | x :: σ, 0 => by rw [List.set_cons_zero, Ws_cons, Ws_cons, hw]; simp
  | x :: σ, i + 1 => by rw [List.set_cons_succ, Ws_cons, Ws_cons]; exact List.Sublist.append (List.Sublist.refl _) (Ws_set_sub hw σ i)
theorem Ws_set_own {a : Addr} {xs : List D} : ∀ (σ : List LV) (i : Nat), (Ws σ).Nodup → a ∉ Ws σ → (Ws (σ.set i (.own a xs))).Nodup
  | [], i, h, _ => by simpa using h
  | x :: σ, 0, h, ha => by
    rw [Ws_cons] at h ha
    rw [List.set_cons_zero, Ws_cons]
    refine List.nodup_cons.mpr ⟨fun h' => ha (List.mem_append_right _ h'), (List.nodup_append.mp h).2.1⟩
  | x :: σ, i + 1, h, ha => by
    rw [Ws_cons] at h ha
    rw [List.set_cons_succ, Ws_cons]
    obtain ⟨h1, h2, h3⟩ := List.nodup_append.mp h
    refine List.nodup_append.mpr ⟨h1, Ws_set_own σ i h2 fun h' => ha (List.mem_append_right _ h'), fun b hb c hc e => ?_⟩
    subst e
    rcases mem_Ws_set hc with h' | h'
    · simp [LV.w] at h'; subst h'; exact ha (List.mem_append_left _ hb)
    · exact h3 b hb b h' rfl
theorem Ws_set_same {a : Addr} {xs ys : List D} : ∀ (σ : List LV) (i : Nat), σ[i]? = some (.own a xs) → Ws (σ.set i (.own a ys)) = Ws σ
  | [], i, h => by simp at h
  | x :: σ, 0, h => by simp at h; subst h; rfl
  | x :: σ, i + 1, h => by simp at h; rw [List.set_cons_succ, Ws_cons, Ws_cons, Ws_set_same σ i h]
theorem mem_Ws_of {σ : List LV} {i : Nat} {a : Addr} {xs : List D} (h : σ[i]? = some (.own a xs)) : a ∈ Ws σ :=
  List.mem_flatMap.mpr ⟨_, List.mem_of_getElem? h, by simp [LV.w]⟩
theorem Ws_two {a : Addr} {xs ys : List D} : ∀ {σ : List LV} {i j : Nat}, (Ws σ).Nodup → σ[i]? = some (.own a xs) → σ[j]? = some (.own a ys) → i = j
  | [], i, j, _, h, _ => by simp at h
  | x :: σ, 0, 0, _, _, _ => rfl
  | x :: σ, i + 1, j + 1, hn, h1, h2 => by
    rw [Ws_cons] at hn
    simp at h1 h2
    rw [Ws_two (List.nodup_append.mp hn).2.1 h1 h2]
  | x :: σ, 0, j + 1, hn, h1, h2 => by
    rw [Ws_cons] at hn
    simp at h1 h2
    subst h1
    exact absurd rfl ((List.nodup_append.mp hn).2.2 a (by simp [LV.w]) a (mem_Ws_of h2))
  | x :: σ, i + 1, 0, hn, h1, h2 => by
    rw [Ws_cons] at hn
    simp at h1 h2
    subst h2
    exact absurd rfl ((List.nodup_append.mp hn).2.2 a (by simp [LV.w]) a (mem_Ws_of h1))
theorem mem_Ws_inv {σ : List LV} {a : Addr} (h : a ∈ Ws σ) : ∃ (i : Nat) (xs : List D), σ[i]? = some (.own a xs) := by
  obtain ⟨x, hx, ha⟩ := List.mem_flatMap.mp h
  obtain ⟨i, hi⟩ := List.getElem?_of_mem hx
  cases x with
  | own b xs => simp [LV.w] at ha; subst ha; exact ⟨i, xs, hi⟩
  | _ => simp [LV.w] at ha

section
variable {env : Env} {vars : List PySem.Str} {h₀ h h' : Heap} {σ : List LV}
theorem Rel.ownPlain (R : Rel env vars h₀ σ h) {a : Addr} (ha : a ∈ Ws σ) : ∃ items, h.PlainList a items := by
  obtain ⟨i, xs, hi⟩ := mem_Ws_inv ha
  have hlt : i < σ.length := by
    rcases List.getElem?_eq_some_iff.mp hi with ⟨h1, _⟩; exact h1
  obtain ⟨x, hx⟩ : ∃ x, vars[i]? = some x := ⟨_, List.getElem?_eq_getElem (by rw [← R.len]; exact hlt)⟩
  obtain ⟨vs, _, hl, _⟩ := R.vals i x _ hx hi
  exact ⟨_, hl⟩
theorem Rel.ownList (R : Rel env vars h₀ σ h) {a : Addr} (ha : a ∈ Ws σ) : ∃ items, h.IsList a items := let ⟨i, x⟩ := R.ownPlain ha; ⟨i, x.isList⟩

end
end Mine
end

section
namespace Mine
open PySem.Calls

noncomputable def NewVal (h : Heap) (W : List Addr) (v : Value) : LV → Prop
  | .unset => False
  | .val d => RD h W d v
  | .own a xs => v = .ref a ∧ ∃ vs, h.PlainList a vs.toArray ∧ RDs h W xs vs

theorem ns_fun_eq {h : Heap} {a : Addr} {m m₁ : PySem.Str → Option Value} (hn : h.Ns a m) (hn₁ : h.Ns a m₁) : m = m₁ := by
  obtain ⟨o, es, ep, e, d, _, f⟩ := hn
  obtain ⟨o', es', ep', e', d', _, f'⟩ := hn₁
  rw [e] at e'; cases e'
  rw [d] at d'; cases d'
  funext z; rw [← f, ← f']

section
variable {prog : Program} {w : World} {A : Around} {E : Value → Shared → Prop} {s : Shared} {env : Env} {vars : List PySem.Str} {h₀ : Heap} {σ : List LV}

theorem VarOK.rebuild {h h' : Heap} {W : List Addr} {y : PySem.Str} {lv : LV} (o : VarOK env h W y lv) (hl : ∀ v, Look env h y v → Look env h' y v) (hL : ∀ a (o : Obj), (∃ i n, o.data = .seq i n) → h.get? a = some o → h'.get? a = some o) : VarOK env h' W y lv := by
  cases lv with
  | unset => trivial
  | val d => obtain ⟨v, l, r⟩ := o; exact ⟨v, hl v l, RD.mono (fun a i _ x => list_via hL x) (fun _ x => x) _ _ r⟩
  | own a xs => obtain ⟨vs, l, il, r⟩ := o; exact ⟨vs, hl _ l, plain_via hL il, RDs.mono (fun a i _ x => list_via hL x) (fun _ x => x) _ _ r⟩

theorem store_gen {x : PySem.Str} {i : Nat} {v : Value} {lv : LV} {Q : Unit → Shared → Prop} (R : Rel env vars h₀ σ s.heap)
    (hk : env.scope.kind = .function) (hf : env.func ≠ none) (hi : vars[i]? = some x) (hnd : vars.Nodup)
    (hx : env.kindOf x = some .local ∨ env.kindOf x = some .cell)
    (hoth : ∀ (j : Nat) y lv', j ≠ i → vars[j]? = some y → σ[j]? = some lv' → VarOK env s.heap (Ws (σ.set i lv)) y lv')
    (hnew : NewVal s.heap (Ws (σ.set i lv)) v lv) (hown : ∀ a ∈ Ws (σ.set i lv), h₀.get? a = none) (hwn : (Ws (σ.set i lv)).Nodup)
    (h : ∀ h' tk, Rel env vars h₀ (σ.set i lv) h' → Q () { s with heap := h', toks := tk }) : wpAny (model prog w) A (storeName env x v) Q E s := by
  obtain ⟨m, hn⟩ := R.ns
  have hne : ∀ (j : Nat) y, j ≠ i → vars[j]? = some y → y ≠ x := by
    intro j y hj hy e
    subst e
    obtain ⟨h1, e1⟩ := List.getElem?_eq_some_iff.mp hi
    obtain ⟨h2, e2⟩ := List.getElem?_eq_some_iff.mp hy
    exact hj ((List.getElem_inj hnd).mp (e2.trans e1.symm))
  -- what both roads share
  have fin : ∀ (h' : Heap) (b : Addr), Heap.SameBut b s.heap h' → h₀.get? b = none → (∃ m', h'.Ns env.locals m') → (∀ c v₀, s.heap.IsCell c v₀ → ∃ v₁, h'.IsCell c v₁) →
      (∀ a (o : Obj), (∃ i n, o.data = .seq i n) → s.heap.get? a = some o → h'.get? a = some o) → Look env h' x v → (∀ y v', y ≠ x → Look env s.heap y v' → Look env h' y v') → Rel env vars h₀ (σ.set i lv) h' := by
    intro h' b hs hb hns hcell hL hlx hly
    refine ⟨fun a o e => hs.extBut a o (by rintro rfl; rw [hb] at e; cases e) (R.keep a o e), hns, R.newL, fun y hy => ?_, R.cellsNew, R.apart, fun j y lv' hy hl => ?_, hown, hwn, by rw [List.length_set]; exact R.len⟩
    · obtain ⟨c, v₀, h1, h2⟩ := R.cells y hy
      obtain ⟨v₁, h3⟩ := hcell c v₀ h2
      exact ⟨c, v₁, h1, h3⟩
    · by_cases hj : j = i
      · subst hj
        rw [hi] at hy; cases hy
        have hlt : j < σ.length := by
          rcases List.getElem?_eq_some_iff.mp hl with ⟨h1, _⟩; simpa using h1
        rw [List.getElem?_set_self hlt] at hl
        cases hl
        cases lv with
        | unset => trivial
        | val d => exact ⟨v, hlx, RD.mono (fun a i _ x => list_via hL x) (fun _ x => x) _ _ hnew⟩
        | own a xs =>
          obtain ⟨rfl, vs, h1, h2⟩ := hnew
          exact ⟨vs, hlx, plain_via hL h1, RDs.mono (fun a i _ x => list_via hL x) (fun _ x => x) _ _ h2⟩
      · rw [List.getElem?_set_ne (Ne.symm hj)] at hl
        exact (hoth j y lv' hj hy hl).rebuild (fun v' l => hly y v' (hne j y hj hy) l) hL
  rcases hx with hx | hx
  · refine wpAny_storeName_local hx hn (fun h' hn' hs => h h' _ (fin h' env.locals hs R.newL ⟨_, hn'⟩ (fun c v₀ hc => ⟨v₀, hc.sameBut hs (Ne.symm (ns_cell_ne hn hc))⟩)
      (fun a o hd e => hs.extBut a o (fun he => by obtain ⟨o', es, ep, ho', hd', _⟩ := id hn; obtain ⟨i, n, hd⟩ := hd; rw [he, ho'] at e; cases e; rw [hd'] at hd; cases hd) e) (.inl ⟨hx, _, hn', by simp⟩) fun y v' hy l => ?_)) (by rw [hk]; rfl)
    rcases l with ⟨k, m₁, hn₁, hv⟩ | ⟨k, c, hc, hv⟩
    · refine .inl ⟨k, _, hn', ?_⟩
      have := ns_fun_eq hn hn₁
      subst this
      show (if y = x then _ else m y) = _
      rw [if_neg hy]; exact hv
    · exact .inr ⟨k, c, hc, hv.sameBut hs (Ne.symm (ns_cell_ne hn hv))⟩
  · obtain ⟨c, v₀, hc, hv₀⟩ := R.cells x hx
    refine wpAny_storeName_cell hk hx hc hv₀ (fun h' hv' hs => h h' _ (fin h' c hs (R.cellsNew hf x c hc) ⟨m, hn.sameBut hs (ns_cell_ne hn hv₀)⟩ (fun c' v₁ hc' => ?_)
      (fun a o hd e => hs.extBut a o (fun he => by obtain ⟨o', ho', hd'⟩ := id hv₀; obtain ⟨i, n, hd⟩ := hd; rw [he, ho'] at e; cases e; rw [hd'] at hd; cases hd) e) (.inr ⟨.inl hx, c, hc, hv'⟩) fun y v' hy l => ?_))
    · by_cases e : c' = c
      · subst e; exact ⟨_, hv'⟩
      · exact ⟨v₁, hc'.sameBut hs e⟩
    · rcases l with ⟨k, m₁, hn₁, hv⟩ | ⟨k, c', hc', hv⟩
      · exact .inl ⟨k, m₁, hn₁.sameBut hs (ns_cell_ne hn₁ hv₀), hv⟩
      · refine .inr ⟨k, c', hc', hv.sameBut hs ?_⟩
        rintro rfl
        exact hy (R.apart y x _ hc' hc)

theorem VarOK.sub {h : Heap} {W W' : List Addr} {y : PySem.Str} {lv : LV} (hw : ∀ a, a ∈ W' → a ∈ W) (o : VarOK env h W y lv) : VarOK env h W' y lv := by
  cases lv with
  | unset => trivial
  | val d => obtain ⟨v, l, r⟩ := o; exact ⟨v, l, RD.mono (fun _ _ _ x => x) hw _ _ r⟩
  | own a xs => obtain ⟨vs, l, hl, r⟩ := o; exact ⟨vs, l, hl, RDs.mono (fun _ _ _ x => x) hw _ _ r⟩

/-- a name is bound to data -/
theorem store_val {x : PySem.Str} {i : Nat} {v : Value} {d : D} {Q : Unit → Shared → Prop} (R : Rel env vars h₀ σ s.heap)
    (hk : env.scope.kind = .function) (hf : env.func ≠ none) (hi : vars[i]? = some x) (hnd : vars.Nodup)
    (hx : env.kindOf x = some .local ∨ env.kindOf x = some .cell) (hv : RD s.heap (Ws σ) d v)
    (h : ∀ h' tk, Rel env vars h₀ (σ.set i (.val d)) h' → Q () { s with heap := h', toks := tk }) : wpAny (model prog w) A (storeName env x v) Q E s := by
  have hsub := Ws_set_sub (lv := .val d) rfl σ i
  refine store_gen R hk hf hi hnd hx (fun j y lv' _ hy hl => (R.vals j y lv' hy hl).sub fun a ha => hsub.subset ha) (RD.mono (fun _ _ _ x => x) (fun a ha => hsub.subset ha) _ _ hv)
    (fun a ha => R.ownNew a (hsub.subset ha)) (R.nd.sublist hsub) h

mutual
theorem RD.fresh {h : Heap} {W : List Addr} {a : Addr} (ha : h.get? a = none) : ∀ (d : D) (v : Value), RD h W d v → RD h (a :: W) d v
  | .none, _, r => r
  | .bool _, _, r => r
  | .int _, _, r => r
  | .str _, _, r => r
  | .thing _, _, r => r
  | .list xs, v, r => by
    unfold RD at r ⊢
    obtain ⟨b, vs, e, hb, hl, hs⟩ := r
    refine ⟨b, vs, e, ?_, hl, RDs.fresh ha xs vs hs⟩
    intro hm
    rcases List.mem_cons.mp hm with rfl | hm
    · obtain ⟨o, ho, _⟩ := hl; rw [ha] at ho; cases ho
    · exact hb hm
theorem RDs.fresh {h : Heap} {W : List Addr} {a : Addr} (ha : h.get? a = none) : ∀ (xs : List D) (vs : List Value), RDs h W xs vs → RDs h (a :: W) xs vs
  | [], _, r => by unfold RDs at r ⊢; exact r
  | x :: xs, vs, r => by
    unfold RDs at r ⊢
    obtain ⟨v, r', e, h1, h2⟩ := r
    exact ⟨v, r', e, RD.fresh ha x v h1, RDs.fresh ha xs r' h2⟩
end
theorem VarOK.fresh {h : Heap} {W : List Addr} {a : Addr} {y : PySem.Str} {lv : LV} (ha : h.get? a = none) (o : VarOK env h W y lv) : VarOK env h (a :: W) y lv := by
  cases lv with
  | unset => trivial
  | val d => obtain ⟨v, l, r⟩ := o; exact ⟨v, l, RD.fresh ha _ _ r⟩
  | own b xs => obtain ⟨vs, l, hl, r⟩ := o; exact ⟨vs, l, hl, RDs.fresh ha _ _ r⟩

theorem fresh_none (h : Heap) : h.get? h.objs.size = none := by
  cases e : h.get? h.objs.size with
  | none => rfl
  | some o => exact absurd (Heap.lt_size e) (Nat.lt_irrefl _)
/-- a name is bound to a new empty list, which is the frame's own from now on -/
theorem store_own {x : PySem.Str} {i : Nat} {n : Nat} {Q : Unit → Shared → Prop} (R : Rel env vars h₀ σ s.heap)
    (hk : env.scope.kind = .function) (hf : env.func ≠ none) (hi : vars[i]? = some x) (hnd : vars.Nodup)
    (hx : env.kindOf x = some .local ∨ env.kindOf x = some .cell)
    (h : ∀ a h' tk, Rel env vars h₀ (σ.set i (.own a [])) h' → Q () { s with heap := h', toks := tk }) :
    wpAny (model prog w) A (storeName env x (.ref s.heap.objs.size)) Q E { s with heap := s.heap.push { cls := .type "list", dict := none, data := .seq ([] : List Value).toArray n } } := by
  have hkeep : ∀ b o, s.heap.get? b = some o → (s.heap.push { cls := .type "list", dict := none, data := .seq ([] : List Value).toArray n }).get? b = some o := fun b o e => Heap.get?_push_of_some _ e
  have ha0 : s.heap.objs.size ∉ Ws σ := fun hm => by
    obtain ⟨items, o, ho, _⟩ := R.ownList hm
    rw [fresh_none] at ho; cases ho
  have hsub : ∀ a, a ∈ Ws (σ.set i (.own s.heap.objs.size [])) → a ∈ s.heap.objs.size :: Ws σ := fun a hm => by
    rcases mem_Ws_set hm with h1 | h1
    · simp [LV.w] at h1; exact h1 ▸ List.mem_cons_self
    · exact List.mem_cons_of_mem _ h1
  refine store_gen (s := { s with heap := s.heap.push _ }) (σ := σ) (lv := .own s.heap.objs.size []) (R.ext hkeep) hk hf hi hnd hx (fun j y lv' _ hy hl => ?_) ?_ ?_ (Ws_set_own σ i R.nd ha0) (fun h' tk R' => h _ h' tk R')
  · exact (((R.vals j y lv' hy hl).fresh (fresh_none _)).sub hsub).keep hkeep
  · exact ⟨rfl, [], ⟨n, Heap.get?_push_size _ rfl⟩, RDs.nil⟩
  · intro a hm
    rcases List.mem_cons.mp (hsub a hm) with rfl | h1
    · cases e : h₀.get? s.heap.objs.size with
      | none => rfl
      | some o => have := R.keep _ _ e; rw [fresh_none] at this; cases this
    · exact R.ownNew a h1

/-- an own list is written to -/
theorem Rel.write {h' : Heap} {i : Nat} {a : Addr} {xs ys : List D} {us : List Value} (R : Rel env vars h₀ σ s.heap) (hi : σ[i]? = some (.own a xs))
    (hs : Heap.SameBut a s.heap h') (hl : h'.PlainList a us.toArray) (hr : RDs s.heap (Ws σ) ys us) : Rel env vars h₀ (σ.set i (.own a ys)) h' := by
  have ha := mem_Ws_of hi
  have hW := Ws_set_same (ys := ys) σ i hi
  obtain ⟨items, hla⟩ := R.ownList ha
  have hL : ∀ b it, b ∉ Ws σ → s.heap.IsList b it → h'.IsList b it := fun b it hb x => isList_same x hs (by rintro rfl; exact hb ha)
  have hlook : ∀ y v, Look env s.heap y v → Look env h' y v := by
    intro y v l
    rcases l with ⟨k, m₁, hn₁, hv⟩ | ⟨k, c, hc, hv⟩
    · exact .inl ⟨k, m₁, hn₁.sameBut hs (Ne.symm (ns_list_ne hla hn₁)), hv⟩
    · exact .inr ⟨k, c, hc, hv.sameBut hs (Ne.symm (cell_list_ne hla hv))⟩
  refine ⟨fun b o e => hs.extBut b o (by rintro rfl; rw [R.ownNew _ ha] at e; cases e) (R.keep b o e), ?_, R.newL, fun y hy => ?_, R.cellsNew, R.apart, fun j y lv' hy hj => ?_, by rw [hW]; exact R.ownNew, by rw [hW]; exact R.nd, by rw [List.length_set]; exact R.len⟩
  · obtain ⟨m, hn⟩ := R.ns; exact ⟨m, hn.sameBut hs (Ne.symm (ns_list_ne hla hn))⟩
  · obtain ⟨c, v₀, h1, h2⟩ := R.cells y hy; exact ⟨c, v₀, h1, h2.sameBut hs (Ne.symm (cell_list_ne hla h2))⟩
  · rw [hW]
    by_cases hji : j = i
    · subst hji
      have hlt : j < σ.length := by
        rcases List.getElem?_eq_some_iff.mp hi with ⟨h1, _⟩; exact h1
      rw [List.getElem?_set_self hlt] at hj
      cases hj
      obtain ⟨vs, l, _, _⟩ := R.vals j y _ hy hi
      exact ⟨us, hlook _ _ l, hl, RDs.mono hL (fun _ x => x) _ _ hr⟩
    · rw [List.getElem?_set_ne (Ne.symm hji)] at hj
      have := R.vals j y lv' hy hj
      cases lv' with
      | unset => trivial
      | val d => obtain ⟨v, l, r⟩ := this; exact ⟨v, hlook _ _ l, RD.mono hL (fun _ x => x) _ _ r⟩
      | own b zs =>
        obtain ⟨vs, l, il, r⟩ := this
        refine ⟨vs, hlook _ _ l, il.extBut hs.extBut ?_, RDs.mono hL (fun _ x => x) _ _ r⟩
        rintro rfl
        exact hji (Ws_two R.nd hj hi)

/-- an own list is written to no more -/
theorem Rel.demote {h : Heap} {i : Nat} {a : Addr} {xs : List D} (R : Rel env vars h₀ σ h) (hi : σ[i]? = some (.own a xs)) : Rel env vars h₀ (σ.set i (.val (.list xs))) h := by
  have hsub := Ws_set_sub (lv := .val (.list xs)) rfl σ i
  have ha : a ∉ Ws (σ.set i (.val (.list xs))) := fun hm => by
    obtain ⟨j, ys, hj⟩ := mem_Ws_inv hm
    by_cases hji : j = i
    · subst hji
      have hlt : j < σ.length := by
        rcases List.getElem?_eq_some_iff.mp hi with ⟨h1, _⟩; exact h1
      rw [List.getElem?_set_self hlt] at hj; cases hj
    · rw [List.getElem?_set_ne (Ne.symm hji)] at hj
      exact hji (Ws_two R.nd hj hi)
  refine ⟨R.keep, R.ns, R.newL, R.cells, R.cellsNew, R.apart, fun j y lv' hy hj => ?_, fun b hb => R.ownNew b (hsub.subset hb), R.nd.sublist hsub, by rw [List.length_set]; exact R.len⟩
  by_cases hji : j = i
  · subst hji
    have hlt : j < σ.length := by
      rcases List.getElem?_eq_some_iff.mp hi with ⟨h1, _⟩; exact h1
    rw [List.getElem?_set_self hlt] at hj; cases hj
    obtain ⟨vs, l, hl, r⟩ := R.vals j y _ hy hi
    refine ⟨_, l, ?_⟩
    unfold RD
    exact ⟨a, vs, rfl, ha, hl.isList, RDs.mono (fun _ _ _ x => x) (fun b hb => hsub.subset hb) _ _ r⟩
  · rw [List.getElem?_set_ne (Ne.symm hji)] at hj
    exact (R.vals j y lv' hy hj).sub fun b hb => hsub.subset hb
end
end Mine
end

section
namespace Mine
open PySem.Calls

structure AOK (n : Nat) (A : Around) : Prop where
  handled : A.handled = none
  depth : A.depth + n ≤ 900
  units : A.units + 20 * n ≤ 9000
structure GC (K : Frag) (mg mb : PySem.Str → Option Value) (h : Heap) : Prop where
  g : h.Ns mainGlobals mg
  b : h.Ns builtinsNs mb
  nolimit : h.NoLimit
  k : K.In h
  bb : ∀ x : PySem.Str, x ≠ ("__name__" : PySem.Str) → mb x = bootBuiltins x
theorem GC.keeps {K : Frag} {mg mb : PySem.Str → Option Value} {h h' : Heap} (G : GC K mg mb h) (hk : ∀ b o, h.get? b = some o → h'.get? b = some o) : GC K mg mb h' := ⟨G.g.keeps hk, G.b.keeps hk, G.nolimit.keeps hk, G.k.keeps hk, G.bb⟩

structure Cx where
  prog : Program
  w : World
  K : Frag
  mg : PySem.Str → Option Value
  mb : PySem.Str → Option Value
  q : Bool
  n : Nat
  env : Env
  vars : List PySem.Str
structure Cx.Ok (C : Cx) : Prop where
  kind : C.env.scope.kind = .function
  glob : C.env.globals = mainGlobals
  bui : C.env.builtins = builtinsNs

/-- the expression ends with this data -/
structure SE (C : Cx) (σ : List LV) (e : Expr) (d : D) : Prop where
  run : ∀ (A : Around) (h₀ : Heap) (s : Shared) (Q : Value → Shared → Prop) (E : Value → Shared → Prop), AOK C.n A → GC C.K C.mg C.mb h₀ → Rel C.env C.vars h₀ σ s.heap →
    (∀ v s', Ext C.q s s' → RD s'.heap (Ws σ) d v → Q v s') → wpAny (model C.prog C.w) A (eval e C.env) Q E s
structure SEt (C : Cx) (σ : List LV) (e : Expr) (d : D) : Prop where
  run : ∀ (A : Around) (h₀ : Heap) (s : Shared) (Q : Value → Shared → Prop) (E : Value → Shared → Prop), AOK C.n A → GC C.K C.mg C.mb h₀ → Rel C.env C.vars h₀ σ s.heap →
    (∀ v s', Ext C.q s s' → RT s'.heap (Ws σ) d v → Q v s') → wpAny (model C.prog C.w) A (eval e C.env) Q E s
/-- the test comes out so -/
structure ST (C : Cx) (σ : List LV) (e : Expr) (b : Bool) : Prop where
  run : ∀ (A : Around) (h₀ : Heap) (s : Shared) (Q : Bool → Shared → Prop) (E : Value → Shared → Prop), AOK C.n A → GC C.K C.mg C.mb h₀ → Rel C.env C.vars h₀ σ s.heap →
    (∀ s', Ext C.q s s' → Q b s') → wpAny (model C.prog C.w) A (isTrue e C.env (eval e C.env)) Q E s
/-- the arguments -/
structure SEs (C : Cx) (σ : List LV) (pos : Pos) (es : List Expr) (ds : List D) : Prop where
  run : ∀ (A : Around) (h₀ : Heap) (s : Shared) (Q : List Value → Shared → Prop) (E : Value → Shared → Prop), AOK C.n A → GC C.K C.mg C.mb h₀ → Rel C.env C.vars h₀ σ s.heap →
    (∀ vs s', Ext C.q s s' → RDs s'.heap [] ds vs → Q vs s') → wpAny (model C.prog C.w) A (spliced (backTo pos (starEach es C.env))) Q E s
/-- the items of a list display -/
structure SEl (C : Cx) (σ : List LV) (pos : Pos) (es : List Expr) (ds : List D) : Prop where
  run : ∀ (A : Around) (h₀ : Heap) (s : Shared) (Q : List Value → Shared → Prop) (E : Value → Shared → Prop), AOK C.n A → GC C.K C.mg C.mb h₀ → Rel C.env C.vars h₀ σ s.heap →
    (∀ vs s', Ext C.q s s' → RDs s'.heap (Ws σ) ds vs → Q vs s') → wpAny (model C.prog C.w) A (spliced (backTo pos (starEach es C.env))) Q E s

section
variable {C : Cx} {σ : List LV}
theorem SE.t {e : Expr} {d : D} (h : SE C σ e d) : SEt C σ e d := by
  constructor; intro A h₀ s Q E hA hG hR hQ
  exact h.run A h₀ s Q E hA hG hR fun v s' x r => hQ v s' x r.toRT

theorem look_wp {x : PySem.Str} {v : Value} {s : Shared} {A : Around} {E : Value → Shared → Prop} {Q : Value → Shared → Prop} (hk : C.env.scope.kind = .function) (l : Look C.env s.heap x v) (h : Q v s)
    (hn : (x == ("__classdict__" : PySem.Str)) = false) : wpAny (model C.prog C.w) A (loadName C.env x) Q E s := by
  rcases l with ⟨k, m, hn', hm⟩ | ⟨k, c, hc, hv⟩
  · exact wpAny_loadName_local hk k hn' hm h
  · rcases k with k | k
    · exact wpAny_loadName_cell hk k hc hv h
    · exact wpAny_loadName_free hk k hc hv h hn

theorem se_name {x : PySem.Str} {pos : Pos} {d : D} (i : Nat) (hi : C.vars[i]? = some x) (hv : σ[i]? = some (.val d)) (hk : C.Ok) (hd : (x == ("__debug__" : PySem.Str)) = false := by decide +kernel)
    (hn : (x == ("__classdict__" : PySem.Str)) = false := by decide +kernel) : SE C σ (.Name x pos) d := by
  constructor; intro A h₀ s Q E hA hG hR hQ
  obtain ⟨v, l, r⟩ := hR.vals i x _ hi hv
  exact wpAny_Name (look_wp hk.kind l (hQ v s (Ext.refl ..) r) hn) hd
theorem se_own {x : PySem.Str} {pos : Pos} {a : Addr} {xs : List D} (i : Nat) (hi : C.vars[i]? = some x) (hv : σ[i]? = some (.own a xs)) (hk : C.Ok) (hd : (x == ("__debug__" : PySem.Str)) = false := by decide +kernel)
    (hn : (x == ("__classdict__" : PySem.Str)) = false := by decide +kernel) : SEt C σ (.Name x pos) (.list xs) := by
  constructor; intro A h₀ s Q E hA hG hR hQ
  obtain ⟨vs, l, hl, r⟩ := hR.vals i x _ hi hv
  exact wpAny_Name (look_wp hk.kind l (hQ _ s (Ext.refl ..) ⟨a, vs, rfl, hl.isList, r⟩) hn) hd
theorem wp_global {x : PySem.Str} {pos : Pos} {v : Value} {s : Shared} {A : Around} {E : Value → Shared → Prop} {Q : Value → Shared → Prop} (hk : C.Ok) (hx : C.env.kindOf x = some .globalImplicit) (hG : GC C.K C.mg C.mb s.heap)
    (hv : nsIn C.K mainGlobals x = some (some v)) (h : Q v s) (hd : (x == ("__debug__" : PySem.Str)) = false := by decide +kernel) : wpAny (model C.prog C.w) A (eval (.Name x pos) C.env) Q E s :=
  Calls.Name_function_global hk.kind hx (Calls.loadGlobal_global (mg := C.mg) (by rw [hk.glob]; exact hG.g) (mg_of hG.k hG.g hv) h) hd
theorem wp_builtin {x : PySem.Str} {pos : Pos} {v : Value} {s : Shared} {A : Around} {E : Value → Shared → Prop} {Q : Value → Shared → Prop} (hk : C.Ok) (hx : C.env.kindOf x = some .globalImplicit) (hG : GC C.K C.mg C.mb s.heap)
    (hm : nsIn C.K mainGlobals x = some none) (hv : bootBuiltins x = some v) (h : Q v s) (hn : x ≠ ("__name__" : PySem.Str) := by decide +kernel) (hd : (x == ("__debug__" : PySem.Str)) = false := by decide +kernel) : wpAny (model C.prog C.w) A (eval (.Name x pos) C.env) Q E s :=
  Calls.Name_function_global hk.kind hx (Calls.loadGlobal_builtin (mg := C.mg) (mb := C.mb) (by rw [hk.glob]; exact hG.g) (mg_none_of hG.k hG.g hm) (by rw [hk.bui]; exact hG.b) ((hG.bb x hn).trans hv) h) hd
theorem se_global {x : PySem.Str} {pos : Pos} {v : Value} {d : D} (hk : C.Ok) (hx : C.env.kindOf x = some .globalImplicit) (hv : nsIn C.K mainGlobals x = some (some v)) (hr : ∀ h W, RD h W d v)
    (hd : (x == ("__debug__" : PySem.Str)) = false := by decide +kernel) : SE C σ (.Name x pos) d := by
  constructor; intro A h₀ s Q E hA hG hR hQ
  exact wp_global hk hx (hG.keeps hR.keep) hv (hQ v s (Ext.refl ..) (hr _ _)) hd

theorem se_int {i : Int} {k : Nat} {pos : Pos} : SE C σ (.Constant (.int i) k pos) (.int i) := by
  constructor; intro A h₀ s Q E hA hG hR hQ
  exact wpAny_Constant_int (hQ _ _ Ext.toks (by unfold RD; exact ⟨_, rfl⟩))
theorem se_str {x : PySem.Str} {k : Nat} {pos : Pos} : SE C σ (.Constant (.str x) k pos) (.str x) := by
  constructor; intro A h₀ s Q E hA hG hR hQ
  exact Calls.Constant_str (hQ _ _ Ext.toks (by unfold RD; exact ⟨_, rfl⟩))
theorem se_none {k : Nat} {pos : Pos} : SE C σ (.Constant .none k pos) .none := by
  constructor; intro A h₀ s Q E hA hG hR hQ
  exact wpAny_pure (hQ _ s (Ext.refl ..) (by unfold RD; rfl))
theorem se_bool {b : Bool} {k : Nat} {pos : Pos} : SE C σ (.Constant (.bool b) k pos) (.bool b) := by
  constructor; intro A h₀ s Q E hA hG hR hQ
  exact wpAny_pure (hQ _ s (Ext.refl ..) (by unfold RD; rfl))

theorem Rel.ownThere {env : Env} {vars : List PySem.Str} {h₀ h : Heap} (R : Rel env vars h₀ σ h) : ∀ x ∈ Ws σ, ∃ o, h.get? x = some o := fun x hx => by
  obtain ⟨items, o, ho, _⟩ := R.ownList hx
  exact ⟨o, ho⟩
theorem fresh_notin {h : Heap} {W : List Addr} (hW : ∀ x ∈ W, ∃ o, h.get? x = some o) {a : Addr} (ha : h.objs.size ≤ a) : a ∉ W := fun hm => by
  obtain ⟨o, ho⟩ := hW a hm
  exact absurd (Heap.lt_size ho) (Nat.not_lt.mpr ha)

/-- a binary operation on two values -/
structure Op2 (C : Cx) (op : Operator) (d₁ d₂ d : D) : Prop where
  run : ∀ (A : Around) (s : Shared) (W : List Addr) (a b : Value) (Q : Value → Shared → Prop) (E : Value → Shared → Prop), AOK C.n A → (∀ x ∈ W, ∃ o, s.heap.get? x = some o) → RT s.heap W d₁ a → RT s.heap W d₂ b →
  (∀ v s', Ext C.q s s' → RD s'.heap W d v → Q v s') → wpAny (model C.prog C.w) A (binaryOp op a b) Q E s
theorem se_bin {l r : Expr} {op : Operator} {pos : Pos} {d₁ d₂ d : D} (ho : Op2 C op d₁ d₂ d) (hl : SEt C σ l d₁) (hr : SEt C σ r d₂) : SE C σ (.BinOp l op r pos) d := by
  constructor; intro A h₀ s Q E hA hG hR hQ
  refine wpAny_BinOp (hl.run A h₀ s _ _ hA hG hR fun a s₁ x₁ r₁ => ?_)
  have R₁ := hR.ext x₁.keep
  refine hr.run A h₀ s₁ _ _ hA hG R₁ fun b s₂ x₂ r₂ => ?_
  have R₂ := R₁.ext x₂.keep
  exact ho.run A s₂ (Ws σ) a b Q E hA R₂.ownThere (r₁.keep x₂.keep) r₂ fun v s' x r => hQ v s' ((x₁.trans x₂).trans x) r

theorem rd_int {h : Heap} {W : List Addr} {i : Int} {t : Tok} : RD h W (.int i) (.int i t) := by unfold RD; exact ⟨t, rfl⟩
theorem rd_str {h : Heap} {W : List Addr} {i : PySem.Str} {t : Tok} : RD h W (.str i) (.str i t) := by unfold RD; exact ⟨t, rfl⟩
theorem rd_bool {h : Heap} {W : List Addr} {i : Bool} : RD h W (.bool i) (.bool i) := by unfold RD; rfl
theorem rt_int {h : Heap} {W : List Addr} {i : Int} {v : Value} (r : RT h W (.int i) v) : ∃ t, v = .int i t := by unfold RT RD at r; exact r
theorem rt_str {h : Heap} {W : List Addr} {i : PySem.Str} {v : Value} (r : RT h W (.str i) v) : ∃ t, v = .str i t := by unfold RT RD at r; exact r
theorem rt_bool {h : Heap} {W : List Addr} {i : Bool} {v : Value} (r : RT h W (.bool i) v) : v = .bool i := by unfold RT RD at r; exact r
theorem rt_none {h : Heap} {W : List Addr} {v : Value} (r : RT h W .none v) : v = .none := by unfold RT RD at r; exact r
theorem rt_list {h : Heap} {W : List Addr} {xs : List D} {v : Value} (r : RT h W (.list xs) v) : ∃ a vs, v = .ref a ∧ h.IsList a vs.toArray ∧ RDs h W xs vs := by unfold RT at r; exact r
theorem rd_list {h : Heap} {W : List Addr} {xs : List D} {a : Addr} {vs : List Value} (ha : a ∉ W) (hl : h.IsList a vs.toArray) (r : RDs h W xs vs) : RD h W (.list xs) (.ref a) := by unfold RD; exact ⟨a, vs, rfl, ha, hl, r⟩
theorem rd_int_inv {h : Heap} {W : List Addr} {i : Int} {v : Value} (r : RD h W (.int i) v) : ∃ t, v = .int i t := by unfold RD at r; exact r
theorem rd_str_inv {h : Heap} {W : List Addr} {i : PySem.Str} {v : Value} (r : RD h W (.str i) v) : ∃ t, v = .str i t := by unfold RD at r; exact r

theorem op_add {a b : Int} : Op2 C .Add (.int a) (.int b) (.int (a + b)) := by
  constructor; intro A s W u v Q E hA hW r₁ r₂ hQ
  obtain ⟨t, rfl⟩ := rt_int r₁; obtain ⟨t', rfl⟩ := rt_int r₂
  exact PyProof.Rows.add_int (hQ _ _ Ext.toks rd_int)
theorem op_sub {a b : Int} : Op2 C .Sub (.int a) (.int b) (.int (a - b)) := by
  constructor; intro A s W u v Q E hA hW r₁ r₂ hQ
  obtain ⟨t, rfl⟩ := rt_int r₁; obtain ⟨t', rfl⟩ := rt_int r₂
  exact PyProof.Rows.sub_int (hQ _ _ Ext.toks rd_int)
theorem op_mul {a b : Int} (hm : IntMulOk a b) : Op2 C .Mult (.int a) (.int b) (.int (a * b)) := by
  constructor; intro A s W u v Q E hA hW r₁ r₂ hQ
  obtain ⟨t, rfl⟩ := rt_int r₁; obtain ⟨t', rfl⟩ := rt_int r₂
  exact PyProof.Rows.mul_int (hQ _ _ Ext.toks rd_int) hm
theorem op_div {a b : Int} (hb : b ≠ 0) (hp : b.natAbs.log2 < 9000) : Op2 C .FloorDiv (.int a) (.int b) (.int (a.fdiv b)) := by
  constructor; intro A s W u v Q E hA hW r₁ r₂ hQ
  obtain ⟨t, rfl⟩ := rt_int r₁; obtain ⟨t', rfl⟩ := rt_int r₂
  exact PyProof.Rows.floordiv_int hb (hQ _ _ Ext.toks rd_int) (.inl (PyProof.noPylong_of_log2 hp))
theorem op_mod {a b : Int} (hb : b ≠ 0) : Op2 C .Mod (.int a) (.int b) (.int (a.fmod b)) := by
  constructor; intro A s W u v Q E hA hW r₁ r₂ hQ
  obtain ⟨t, rfl⟩ := rt_int r₁; obtain ⟨t', rfl⟩ := rt_int r₂
  exact PyProof.Rows.mod_int hb (hQ _ _ Ext.toks rd_int)
theorem op_pow {a b : Int} (h0 : 0 ≤ b) (h1 : b ≤ 1000000) (ha : a.natAbs < 2 ^ 64) : Op2 C .Pow (.int a) (.int b) (.int (a ^ b.toNat)) := by
  constructor; intro A s W u v Q E hA hW r₁ r₂ hQ
  obtain ⟨t, rfl⟩ := rt_int r₁; obtain ⟨t', rfl⟩ := rt_int r₂
  exact PyProof.Rows.pow_int_small h0 h1 ha (hQ _ _ Ext.toks rd_int)
theorem op_shl {a b : Int} (h0 : 0 ≤ b) (h1 : b ≤ 1000000) (ha : a.natAbs < 2 ^ 64) : Op2 C .LShift (.int a) (.int b) (.int (a * 2 ^ b.toNat)) := by
  constructor; intro A s W u v Q E hA hW r₁ r₂ hQ
  obtain ⟨t, rfl⟩ := rt_int r₁; obtain ⟨t', rfl⟩ := rt_int r₂
  exact PyProof.Rows.lshift_int_small h0 h1 ha (hQ _ _ Ext.toks rd_int)
theorem op_and {a b : Int} : Op2 C .BitAnd (.int a) (.int b) (.int (Builtin.bitAnd a b)) := by
  constructor; intro A s W u v Q E hA hW r₁ r₂ hQ
  obtain ⟨t, rfl⟩ := rt_int r₁; obtain ⟨t', rfl⟩ := rt_int r₂
  exact PyProof.Rows.and_int (hQ _ _ Ext.toks rd_int)
end
end Mine
end

section
namespace Mine
open PySem.Calls

theorem wpAny_getItem_tail {prog : Program} {w : World} {A : Around} {E : Value → Shared → Prop} {s : Shared} {value slice : Expr} {l : Addr} {items : Array Value} {k : Int} {u : Tok} {x : Value} {Q : Value → Shared → Prop} (hl : s.heap.IsList l items)
    (hk : k < 0) (h1 : -(items.size : Int) ≤ k) (hfit : -(2 ^ 63) ≤ k) (hx : items[(k + items.size).toNat]? = some x) (h : Q x s)
    (hs : subscripted slice false (.ref l) (.int k u) = operate [.ref l, .int k u] (getItem (.ref l) (.int k u))) :
    wpAny (model prog w) A (subscriptTail value slice (.ref l) (.int k u)) Q E s :=
  subscriptTail_builtinR hl.typeIs slot_list_getitem.lookup (wpAny_getItem_list_neg (Q := fun r s' => r = x ∧ Q r s') hl hk h1 hfit hx ⟨rfl, h⟩) hs

section
variable {C : Cx} {σ : List LV}


theorem se_item {value slice : Expr} {pos : Pos} {xs : List D} {k : Int} {d : D} (hv : SEt C σ value (.list xs)) (hs : SEt C σ slice (.int k)) (h0 : 0 ≤ k) (hx : xs[k.toNat]? = some d) (hfit : k < 1000000)
    (hsub : ∀ l k u, subscripted slice false (.ref l) (.int k u) = operate [.ref l, .int k u] (getItem (.ref l) (.int k u)) := by intros; with_unfolding_all rfl) : SE C σ (.Subscript value slice pos) d := by
  constructor; intro A h₀ s Q E hA hG hR hQ
  refine Subscript_ (hv.run A h₀ s _ _ hA hG hR fun o s₁ x₁ r₁ => ?_)
  have R₁ := hR.ext x₁.keep
  refine hs.run A h₀ s₁ _ _ hA hG R₁ fun i s₂ x₂ r₂ => ?_
  obtain ⟨a, vs, rfl, hl, hvs⟩ := rt_list (r₁.keep x₂.keep)
  obtain ⟨t, rfl⟩ := rt_int r₂
  obtain ⟨v, hv', r'⟩ := hvs.get hx
  exact item_listR hl h0 (by omega) (by simpa using hv') (hQ v s₂ (x₁.trans x₂) r') (hsub _ _ _)

theorem se_item_neg {value slice : Expr} {pos : Pos} {xs : List D} {k : Int} {d : D} (hv : SEt C σ value (.list xs)) (hs : SEt C σ slice (.int k)) (h0 : k < 0) (h1 : -(xs.length : Int) ≤ k) (hx : xs[(k + xs.length).toNat]? = some d) (hfit : -1000000 < k)
    (hsub : ∀ l k u, subscripted slice false (.ref l) (.int k u) = operate [.ref l, .int k u] (getItem (.ref l) (.int k u)) := by intros; with_unfolding_all rfl) : SE C σ (.Subscript value slice pos) d := by
  constructor; intro A h₀ s Q E hA hG hR hQ
  refine Subscript_ (hv.run A h₀ s _ _ hA hG hR fun o s₁ x₁ r₁ => ?_)
  have R₁ := hR.ext x₁.keep
  refine hs.run A h₀ s₁ _ _ hA hG R₁ fun i s₂ x₂ r₂ => ?_
  obtain ⟨a, vs, rfl, hl, hvs⟩ := rt_list (r₁.keep x₂.keep)
  obtain ⟨t, rfl⟩ := rt_int r₂
  obtain ⟨v, hv', r'⟩ := hvs.get hx
  have hlen := hvs.length
  exact wpAny_getItem_tail hl h0 (by simp; omega) (by omega) (by rw [← hv']; simp [hlen]) (hQ v s₂ (x₁.trans x₂) r') (hsub _ _ _)

/-- a part of a slice -/
structure SP (C : Cx) (σ : List LV) (x : Option Expr) (i : Option Int) : Prop where
  run : ∀ (A : Around) (h₀ : Heap) (s : Shared) (Q : Value → Shared → Prop) (E : Value → Shared → Prop), AOK C.n A → GC C.K C.mg C.mb h₀ → Rel C.env C.vars h₀ σ s.heap →
    (∀ v s', Ext C.q s s' → IsPart v i → Q v s') → wpAny (model C.prog C.w) A (evalPart x C.env) Q E s
theorem sp_none : SP C σ none none := by
  constructor; intro A h₀ s Q E hA hG hR hQ
  rw [evalPart_none]; exact wpAny_pure (hQ _ _ (Ext.refl ..) .none)
theorem sp_some {e : Expr} {i : Int} (h : SEt C σ e (.int i)) : SP C σ (some e) (some i) := by
  constructor; intro A h₀ s Q E hA hG hR hQ
  rw [evalPart_some]
  refine h.run A h₀ s _ _ hA hG hR fun v s' x r => ?_
  obtain ⟨t, rfl⟩ := rt_int r
  exact hQ _ _ x (.int _ _)

noncomputable def cut (xs : List α) (lo hi : Option Int) : List α := match lo, hi with
  | none, none => xs
  | none, some j => xs.take j.toNat
  | some i, none => xs.drop i.toNat
  | some i, some j => (xs.drop i.toNat).take (j.toNat - i.toNat)

theorem slicePick_cut {vs : List Value} {lo hi : Option Int} (hlo : ∀ i, lo = some i → 0 ≤ i) (hhi : ∀ i, hi = some i → 0 ≤ i) (hb : lo = none ∨ hi = none) : slicePick vs.toArray lo hi none = (cut vs lo hi).toArray := by
  cases lo with
  | none =>
    cases hi with
    | none => simp [slicePick_all, cut]
    | some j =>
      obtain ⟨n, rfl⟩ := Int.eq_ofNat_of_zero_le (hhi j rfl)
      rw [slicePick_upto']; simp [cut]
  | some i =>
    cases hi with
    | none =>
      obtain ⟨n, rfl⟩ := Int.eq_ofNat_of_zero_le (hlo i rfl)
      rw [slicePick_from']; simp [cut]
    | some j => simp at hb
theorem RDs.cut {h : Heap} {W : List Addr} {xs : List D} {vs : List Value} (r : RDs h W xs vs) (lo hi : Option Int) : RDs h W (cut xs lo hi) (cut vs lo hi) := by
  cases lo <;> cases hi
  · exact r
  · exact r.take _
  · exact r.drop _
  · exact (r.drop _).take _

theorem RDs.keepPush {h : Heap} {W : List Addr} {xs : List D} {vs : List Value} {o : Obj} (r : RDs h W xs vs) : RDs (h.push o) W xs vs := r.keep fun _ _ e => Heap.get?_push_of_some _ e


theorem se_str_slice {value : Expr} {lower upper : Option Expr} {p pos : Pos} {x : PySem.Str} {lo hi : Option Int} (hv : SEt C σ value (.str x)) (hlo : SP C σ lower lo) (hhi : SP C σ upper hi)
    (hsz : x.length ≤ 1000000) (ht : ∀ o r, letTemporaryGo value o r = pure () := by intro _ _; rfl) :
    SE C σ (.Subscript value (.Slice lower upper none p) pos) (.str (Txt.slice x lo hi)) := by
  constructor; intro A h₀ s Q E hA hG hR hQ
  refine wpAny_Subscript_str_slice (hv.run A h₀ s _ _ hA hG hR fun o s₁ x₁ r₁ => ?_) ht
  have R₁ := hR.ext x₁.keep
  refine hlo.run A h₀ s₁ _ _ hA hG R₁ fun vl s₂ x₂ p₂ => ?_
  have R₂ := R₁.ext x₂.keep
  refine hhi.run A h₀ s₂ _ _ hA hG R₂ fun vu s₃ x₃ p₃ => ?_
  obtain ⟨t, rfl⟩ := rt_str r₁
  have e₂ : ∃ l, vl = partValue l ∧ l.map (·.1) = lo := by cases p₂ with
    | none => exact ⟨none, rfl, rfl⟩
    | int i t => exact ⟨some (i, t), rfl, rfl⟩
  have e₃ : ∃ l, vu = partValue l ∧ l.map (·.1) = hi := by cases p₃ with
    | none => exact ⟨none, rfl, rfl⟩
    | int i t => exact ⟨some (i, t), rfl, rfl⟩
  obtain ⟨l, rfl, rfl⟩ := e₂
  obtain ⟨u, rfl, rfl⟩ := e₃
  refine ⟨x, t, l, u, rfl, rfl, rfl, ?_⟩
  exact post_val_or_str ⟨Nat.le_trans (Txt.slice_le x _ _) (Nat.le_trans hsz (by decide)), fun t' k => hQ _ _ (((x₁.trans x₂).trans x₃).trans (Ext.push.trans (Ext.toks (s := { s₃ with heap := s₃.heap.push _ })))) rd_str⟩

theorem se_list {elts : List Expr} {pos : Pos} {ds : List D} (h : SEl C σ pos elts ds) (hsz : ds.length ≤ 1000 := by first | decide | simp) : SE C σ (.List elts pos) (.list ds) := by
  constructor; intro A h₀ s Q E hA hG hR hQ
  refine wpAny_List_spliced (h.run A h₀ s _ _ hA hG hR fun vs s₁ x₁ r₁ => ?_)
  have hlen := r₁.length
  refine ⟨by rw [← hlen]; exact Nat.le_trans hsz (by decide), ?_⟩
  exact hQ _ _ (x₁.trans Ext.push) (rd_list (fresh_notin (hR.ext x₁.keep).ownThere (Nat.le_refl _)) ⟨_, Heap.get?_push_size _ rfl, rfl, _, rfl⟩ r₁.keepPush)
theorem sel_nil {pos : Pos} : SEl C σ pos [] [] := by
  constructor; intro A h₀ s Q E hA hG hR hQ
  exact wpAny_pure (hQ _ _ (Ext.refl ..) RDs.nil)
theorem sel_one {pos : Pos} {e : Expr} {d : D} (he : SE C σ e d) (ht : ∀ env, backTo pos (starEach [e] env) = [(false, eval e env)] := by intro _; rfl) : SEl C σ pos [e] [d] := by
  constructor; intro A h₀ s Q E hA hG hR hQ
  rw [ht]
  exact spliced_cons (he.run A h₀ s _ _ hA hG hR fun v s₁ x₁ r₁ => wpAny_pure (hQ _ _ x₁ (RDs.cons r₁ RDs.nil)))
theorem sel_cons {pos : Pos} {e : Expr} {es : List Expr} {d : D} {ds : List D} (he : SE C σ e d) (hes : SEl C σ pos es ds)
    (ht : ∀ env, backTo pos (starEach (e :: es) env) = (false, eval e env) :: backTo pos (starEach es env) := by intro _; rfl) : SEl C σ pos (e :: es) (d :: ds) := by
  constructor; intro A h₀ s Q E hA hG hR hQ
  rw [ht]
  refine spliced_cons (he.run A h₀ s _ _ hA hG hR fun v s₁ x₁ r₁ => ?_)
  exact hes.run A h₀ s₁ _ _ hA hG (hR.ext x₁.keep) fun vs s₂ x₂ r₂ => hQ _ _ (x₁.trans x₂) (RDs.cons (r₁.keep x₂.keep) r₂)

theorem op_add_list {xs ys : List D} (hsz : xs.length + ys.length ≤ 1000000) : Op2 C .Add (.list xs) (.list ys) (.list (xs ++ ys)) := by
  constructor; intro A s W u v Q E hA hW r₁ r₂ hQ
  obtain ⟨a, vs, rfl, hl, hvs⟩ := rt_list r₁
  obtain ⟨b, us, rfl, hl', hus⟩ := rt_list r₂
  have e1 := hvs.length
  have e2 := hus.length
  obtain ⟨⟨c, dd, dt, sl⟩, g, hc, n, hd⟩ := id hl
  obtain ⟨⟨c', dd', dt', sl'⟩, g', hc', n', hd'⟩ := id hl'
  dsimp only at hc hd hc' hd'
  subst hc hd hc' hd'
  refine concat_meets ⟨_, g, rfl⟩ ⟨_, g', rfl⟩ noFill_list_add seq_list_add PySem.F.slot_list_add PySem.F.entry_list_add (PySem.F.args_list_add_2 _ _) (list_addW a b vs.toArray us.toArray n n' dd dd' sl sl' (by simp [← e1, ← e2]; exact Nat.le_trans hsz (by decide))) ⟨g, g', ?_⟩
  refine hQ _ _ Ext.push (rd_list (fresh_notin hW (Nat.le_refl _)) (vs := vs ++ us) ⟨_, Heap.get?_push_size _ rfl, rfl, _, by simp; rfl⟩ (hvs.append hus).keepPush)
theorem op_add_str {x y : PySem.Str} (hsz : x.length + y.length ≤ 1000000) : Op2 C .Add (.str x) (.str y) (.str (x ++ y)) := by
  constructor; intro A s W u v Q E hA hW r₁ r₂ hQ
  obtain ⟨t, rfl⟩ := rt_str r₁; obtain ⟨t', rfl⟩ := rt_str r₂
  exact PyProof.Rows.add_str (fun t' tk => hQ _ _ Ext.toks rd_str) (Nat.le_trans hsz (by decide))
end
end Mine
end

section
namespace Mine
open PySem.Calls PySem.Builtin PySem.Builtin.Str

section
variable {C : Cx} {σ : List LV}

/-- a comparison of two values -/
structure Cmp2 (C : Cx) (op : CmpOp) (d₁ d₂ : D) (b : Bool) : Prop where
  run : ∀ (A : Around) (s : Shared) (W : List Addr) (u v : Value) (Q : Value → Shared → Prop) (E : Value → Shared → Prop), AOK C.n A → RT s.heap W d₁ u → RT s.heap W d₂ v →
  (∀ s', Ext C.q s s' → Q (.bool b) s') → wpAny (model C.prog C.w) A (compareOp op u v) Q E s
theorem se_cmp {l r : Expr} {op : CmpOp} {pos : Pos} {d₁ d₂ : D} {b : Bool} (hl : SEt C σ l d₁) (hr : SEt C σ r d₂) (ho : Cmp2 C op d₁ d₂ b) (hm : behindInMarks op r = false := by with_unfolding_all rfl) : SE C σ (.Compare l [op] [r] pos) (.bool b) := by
  constructor; intro A h₀ s Q E hA hG hR hQ
  refine wpAny_Compare1 (hl.run A h₀ s _ _ hA hG hR fun a s₁ x₁ r₁ => ?_) hm
  have R₁ := hR.ext x₁.keep
  refine hr.run A h₀ s₁ _ _ hA hG R₁ fun b' s₂ x₂ r₂ => ?_
  exact ho.run A s₂ (Ws σ) a b' _ _ hA (r₁.keep x₂.keep) r₂ fun s' x => hQ _ s' ((x₁.trans x₂).trans x) rd_bool
theorem st_cmp {l r : Expr} {op : CmpOp} {pos : Pos} {d₁ d₂ : D} {b : Bool} (hl : SEt C σ l d₁) (hr : SEt C σ r d₂) (ho : Cmp2 C op d₁ d₂ b) (hm : behindInMarks op r = false := by with_unfolding_all rfl) : ST C σ (.Compare l [op] [r] pos) b := by
  constructor; intro A h₀ s Q E hA hG hR hQ
  refine wpAny_isTrue_Compare1 (hl.run A h₀ s _ _ hA hG hR fun a s₁ x₁ r₁ => ?_) hm
  have R₁ := hR.ext x₁.keep
  refine hr.run A h₀ s₁ _ _ hA hG R₁ fun b' s₂ x₂ r₂ => ?_
  exact ho.run A s₂ (Ws σ) a b' _ _ hA (r₁.keep x₂.keep) r₂ fun s' x => wpAny_truthy_bool (hQ s' ((x₁.trans x₂).trans x))
section
variable {A : Around} {s : Shared} {W : List Addr} {u v : Value}
theorem cmp_eq_int {a b : Int} : Cmp2 C .Eq (.int a) (.int b) (a == b) := by
  constructor; intro A s W u v Q E hA r₁ r₂ hQ
  obtain ⟨t, rfl⟩ := rt_int r₁; obtain ⟨t', rfl⟩ := rt_int r₂
  exact PyProof.Rows.eq_int (hQ s (Ext.refl ..))
theorem cmp_ne_int {a b : Int} : Cmp2 C .NotEq (.int a) (.int b) (a != b) := by
  constructor; intro A s W u v Q E hA r₁ r₂ hQ
  obtain ⟨t, rfl⟩ := rt_int r₁; obtain ⟨t', rfl⟩ := rt_int r₂
  exact PyProof.Rows.ne_int (hQ s (Ext.refl ..))
theorem cmp_lt_int {a b : Int} : Cmp2 C .Lt (.int a) (.int b) (decide (a < b)) := by
  constructor; intro A s W u v Q E hA r₁ r₂ hQ
  obtain ⟨t, rfl⟩ := rt_int r₁; obtain ⟨t', rfl⟩ := rt_int r₂
  exact PyProof.Rows.lt_int (hQ s (Ext.refl ..))
theorem cmp_gt_int {a b : Int} : Cmp2 C .Gt (.int a) (.int b) (decide (b < a)) := by
  constructor; intro A s W u v Q E hA r₁ r₂ hQ
  obtain ⟨t, rfl⟩ := rt_int r₁; obtain ⟨t', rfl⟩ := rt_int r₂
  exact PyProof.Rows.gt_int (hQ s (Ext.refl ..))
theorem cmp_ge_int {a b : Int} : Cmp2 C .GtE (.int a) (.int b) (decide (b ≤ a)) := by
  constructor; intro A s W u v Q E hA r₁ r₂ hQ
  obtain ⟨t, rfl⟩ := rt_int r₁; obtain ⟨t', rfl⟩ := rt_int r₂
  exact PyProof.Rows.ge_int (hQ s (Ext.refl ..))
theorem cmp_eq_str {a b : PySem.Str} : Cmp2 C .Eq (.str a) (.str b) (a == b) := by
  constructor; intro A s W u v Q E hA r₁ r₂ hQ
  obtain ⟨t, rfl⟩ := rt_str r₁; obtain ⟨t', rfl⟩ := rt_str r₂
  exact PyProof.Rows.eq_str (hQ s (Ext.refl ..))
theorem cmp_ne_str {a b : PySem.Str} : Cmp2 C .NotEq (.str a) (.str b) (a != b) := by
  constructor; intro A s W u v Q E hA r₁ r₂ hQ
  obtain ⟨t, rfl⟩ := rt_str r₁; obtain ⟨t', rfl⟩ := rt_str r₂
  exact PyProof.Rows.ne_str (hQ s (Ext.refl ..))
theorem cmp_notin_str {a b : PySem.Str} : Cmp2 C .NotIn (.str a) (.str b) (!Txt.contains b a) := by
  constructor; intro A s W u v Q E hA r₁ r₂ hQ
  obtain ⟨t, rfl⟩ := rt_str r₁; obtain ⟨t', rfl⟩ := rt_str r₂
  exact SB.notContains (hQ s (Ext.refl ..))
theorem cmp_is_none {d : D} (hd : d = .none ∨ (∃ i, d = .int i)) : Cmp2 C .Is d .none (match d with | .none => true | _ => false) := by
  constructor; intro A s W u v Q E hA r₁ r₂ hQ
  have := rt_none r₂; subst this
  rcases hd with rfl | ⟨i, rfl⟩
  · have := rt_none r₁; subst this
    exact wpAny_pure (hQ s (Ext.refl ..))
  · obtain ⟨t, rfl⟩ := rt_int r₁
    exact wpAny_pure (hQ s (Ext.refl ..))
end

/-- the truth of a value -/
structure Tr (C : Cx) (d : D) (b : Bool) : Prop where
  run : ∀ (A : Around) (s : Shared) (W : List Addr) (u : Value) (Q : Bool → Shared → Prop) (E : Value → Shared → Prop), AOK C.n A → RT s.heap W d u →
  (∀ s', Ext C.q s s' → Q b s') → wpAny (model C.prog C.w) A (truthy u) Q E s
theorem tr_int {a : Int} : Tr C (.int a) (a != 0) := by
  constructor; intro A s W u Q E hA r hQ
  obtain ⟨t, rfl⟩ := rt_int r
  exact PyProof.Rows.truthy_int (hQ s (Ext.refl ..))
theorem tr_bool {a : Bool} : Tr C (.bool a) a := by
  constructor; intro A s W u Q E hA r hQ
  have := rt_bool r; subst this
  exact wpAny_truthy_bool (hQ s (Ext.refl ..))
theorem tr_str {x : PySem.Str} (hsz : x.length ≤ 1000000) : Tr C (.str x) ((x.length : Int) != 0) := by
  constructor; intro A s W u Q E hA r hQ
  obtain ⟨t, rfl⟩ := rt_str r
  exact P.truthy_str (by omega) (hQ _ Ext.toks)
theorem st_val {e : Expr} {d : D} {b : Bool} (he : SEt C σ e d) (ht : Tr C d b) (hp : ∀ env whole, isTrue e env whole = (do let v ← whole; standAt e.pos; holding [v] (truthy v)) := by intros; rfl) : ST C σ e b := by
  constructor; intro A h₀ s Q E hA hG hR hQ
  refine isTrue_plain (he.run A h₀ s _ _ hA hG hR fun v s₁ x₁ r₁ => ?_) (hp _ _)
  exact ht.run A s₁ (Ws σ) v _ _ hA r₁ fun s' x => hQ s' (x₁.trans x)
theorem st_not {e : Expr} {pos : Pos} {b : Bool} (h : ST C σ e b) : ST C σ (.UnaryOp .Not e pos) (!b) := by
  constructor; intro A h₀ s Q E hA hG hR hQ
  exact isTrue_not (h.run A h₀ s _ _ hA hG hR fun s' x => hQ s' x)
theorem st_of_eq {e : Expr} {b b' : Bool} (h : ST C σ e b) (hb : b = b') : ST C σ e b' := hb ▸ h
theorem se_of_eq {e : Expr} {b b' : D} (h : SE C σ e b) (hb : b = b') : SE C σ e b' := hb ▸ h

theorem st_and {x y : Expr} {pos : Pos} {a b : Bool} (hx : ST C σ x a) (hy : a = true → ST C σ y b) : ST C σ (.BoolOp .And [x, y] pos) (a && b) := by
  constructor; intro A h₀ s Q E hA hG hR hQ
  refine isTrue_and (hx.run A h₀ s _ _ hA hG hR fun s₁ x₁ => ?_)
  cases a with
  | false => simpa using hQ s₁ x₁
  | true =>
    simp only [if_true]
    refine isTrue_and ((hy rfl).run A h₀ s₁ _ _ hA hG (hR.ext x₁.keep) fun s₂ x₂ => ?_)
    cases b with
    | false => simpa using hQ s₂ (x₁.trans x₂)
    | true => simp only [if_true]; exact isTrue_and_nil (by simpa using hQ s₂ (x₁.trans x₂))
theorem st_or {x y : Expr} {pos : Pos} {a b : Bool} (hx : ST C σ x a) (hy : a = false → ST C σ y b) : ST C σ (.BoolOp .Or [x, y] pos) (a || b) := by
  constructor; intro A h₀ s Q E hA hG hR hQ
  refine isTrue_or (hx.run A h₀ s _ _ hA hG hR fun s₁ x₁ => ?_)
  cases a with
  | true => simpa using hQ s₁ x₁
  | false =>
    simp only [Bool.false_eq_true, if_false]
    refine isTrue_or ((hy rfl).run A h₀ s₁ _ _ hA hG (hR.ext x₁.keep) fun s₂ x₂ => ?_)
    cases b with
    | true => simpa using hQ s₂ (x₁.trans x₂)
    | false => simp only [Bool.false_eq_true, if_false]; exact isTrue_or_nil (by simpa using hQ s₂ (x₁.trans x₂))
theorem se_ifexp {t x y : Expr} {pos : Pos} {b : Bool} {d : D} (ht : ST C σ t b) (hx : b = true → SE C σ x d) (hy : b = false → SE C σ y d) : SE C σ (.IfExp t x y pos) d := by
  constructor; intro A h₀ s Q E hA hG hR hQ
  refine wpAny_IfExp (ht.run A h₀ s _ _ hA hG hR fun s₁ x₁ => ?_)
  cases b with
  | true => simp only [if_true]; exact (hx rfl).run A h₀ s₁ _ _ hA hG (hR.ext x₁.keep) fun v s' x r => hQ v s' (x₁.trans x) r
  | false => simp only [Bool.false_eq_true, if_false]; exact (hy rfl).run A h₀ s₁ _ _ hA hG (hR.ext x₁.keep) fun v s' x r => hQ v s' (x₁.trans x) r
theorem se_neg {x : Expr} {pos : Pos} {a : Int} (hx : SEt C σ x (.int a)) : SE C σ (.UnaryOp .USub x pos) (.int (-a)) := by
  constructor; intro A h₀ s Q E hA hG hR hQ
  refine UnaryOp_ (hx.run A h₀ s _ _ hA hG hR fun v s₁ x₁ r₁ => ?_)
  obtain ⟨t, rfl⟩ := rt_int r₁
  exact PyProof.Rows.neg_int (hQ _ _ (x₁.trans Ext.toks) rd_int)

/-- what a built-in gives -/
structure BN (C : Cx) (id : String) (ds : List D) (d : D) : Prop where
  run : ∀ (A : Around) (s : Shared) (W : List Addr) (vs : List Value) (Q : Value → Shared → Prop) (E : Value → Shared → Prop), AOK C.n A → GC C.K C.mg C.mb s.heap → (∀ x ∈ W, ∃ o, s.heap.get? x = some o) → RDs s.heap [] ds vs →
  (∀ v s', Ext C.q s s' → RD s'.heap W d v → Q v s') → wpAny (model C.prog C.w) A (call (.builtin id) vs) Q E s

theorem ses_nil {pos : Pos} : SEs C σ pos [] [] := by
  constructor; intro A h₀ s Q E hA hG hR hQ
  exact wpAny_pure (hQ _ _ (Ext.refl ..) RDs.nil)
theorem ses_cons {pos : Pos} {e : Expr} {es : List Expr} {d : D} {ds : List D} (he : SEt C σ e d) (hes : SEs C σ pos es ds)
    (ht : ∀ env, starEach (e :: es) env = (false, eval e env) :: starEach es env := by intro _; rfl) : SEs C σ pos (e :: es) (d :: ds) := by
  constructor; intro A h₀ s Q E hA hG hR hQ
  have ht' : backTo pos (starEach (e :: es) C.env) = (false, eval e C.env) :: backTo pos (starEach es C.env) := by rw [ht]; rfl
  rw [ht']
  refine spliced_cons (he.run A h₀ s _ _ hA hG hR fun v s₁ x₁ r₁ => ?_)
  exact hes.run A h₀ s₁ _ _ hA hG (hR.ext x₁.keep) fun vs s₂ x₂ r₂ => hQ _ _ (x₁.trans x₂) (RDs.cons (r₁.keep x₂.keep).loose r₂)

theorem not_starred {e : Expr} {es : List Expr} {env : Env} {pos : Pos} (h : (backTo pos (starEach (e :: es) env)).all (fun x => !x.1) = true) : (backTo pos (starEach (e :: es) env)).any (·.1) = false := by
  rw [List.any_eq_false]; intro x hx
  have := List.all_eq_true.mp h x hx
  simpa using this

theorem se_callB {x : PySem.Str} {id : String} {p pos : Pos} {e : Expr} {es : List Expr} {ds : List D} {d : D} (hk : C.Ok) (hx : C.env.kindOf x = some .globalImplicit) (hm : nsIn C.K mainGlobals x = some none) (hv : bootBuiltins x = some (.builtin id))
    (he : SEs C σ pos (e :: es) ds) (hb : BN C id ds d) (hst : ∀ env, (starEach (e :: es) env) = (false, eval e env) :: starEach es env := by intro _; rfl) (hall : ∀ env, (backTo pos (starEach (e :: es) env)).all (fun x => !x.1) = true := by intro _; rfl)
    (hn : x ≠ ("__name__" : PySem.Str) := by decide +kernel) (hd : (x == ("__debug__" : PySem.Str)) = false := by decide +kernel) : SE C σ (.Call (.Name x p) (e :: es) [] pos) d := by
  constructor; intro A h₀ s Q E hA hG hR hQ
  refine wpAny_Call_NameR (wp_builtin hk hx (hG.keeps hR.keep) hm hv ?_ hn hd)
  refine callWith_builtin (not_starred (hall _)) ?_
  have hst' : backTo pos (starEach (e :: es) C.env) = (false, eval e C.env) :: backTo pos (starEach es C.env) := by rw [hst]; rfl
  rw [hst']
  refine evalArgs_plain ?_
  rw [← hst']
  refine he.run A h₀ s _ _ hA hG hR fun vs s₁ x₁ r₁ => ?_
  exact hb.run A s₁ (Ws σ) vs _ _ hA (hG.keeps (hR.ext x₁.keep).keep) (hR.ext x₁.keep).ownThere r₁ fun v s' x r => hQ v s' (x₁.trans x) r

/-- a method of a text -/
theorem se_methS {o : Expr} {name : PySem.Str} {apos pos : Pos} {e : Expr} {es : List Expr} {id : String} {x : PySem.Str} {ds : List D} {d : D} (ho : SEt C σ o (.str x)) (he : SEs C σ pos (e :: es) ds)
    (slot : Slot "str" name id) (hty : typeOf (.builtin id) = pure (.type "method_descriptor")) (hb : BN C id (.str x :: ds) d)
    (hst : ∀ env, (starEach (e :: es) env) = (false, eval e env) :: starEach es env := by intro _; rfl) (hall : ∀ env, (backTo pos (starEach (e :: es) env)).all (fun x => !x.1) = true := by intro _; rfl)
    (hbase : ∀ env, attributeBase o name env (eval o env) = eval o env := by intro _; rfl)
    (hfew : ∀ env, ((backTo pos (starEach (e :: es) env)).all (fun x => !x.1) && (backToKw pos (keywordEach [] env)).all (fun x => x.1.isSome) && decide ((e :: es).length + ([] : List Keyword).length + (if ([] : List Keyword).isEmpty then 0 else 1) < 30)) = true := by intro _; rfl)
    (hline : (apos.endLine == pos.line) = true := by decide) : SE C σ (.Call (.Attribute o name apos) (e :: es) [] pos) d := by
  constructor; intro A h₀ s Q E hA hG hR hQ
  refine wpAny_Call_method_lateS (hbase _) (hfew _) hline (ho.run A h₀ s _ _ hA hG hR fun ov s₁ x₁ r₁ => ?_)
  obtain ⟨t, rfl⟩ := rt_str r₁
  have R₁ := hR.ext x₁.keep
  refine ⟨"str", id, PySem.F.plainAttrs_str, slot, hty, typeIs_str _ _ _, (fun _ e => nomatch e), ?_⟩
  refine callWith_builtin (not_starred (hall _)) ?_
  have hst' : backTo pos (starEach (e :: es) C.env) = (false, eval e C.env) :: backTo pos (starEach es C.env) := by rw [hst]; rfl
  rw [hst']
  refine evalArgs_plain ?_
  rw [← hst']
  refine he.run A h₀ s₁ _ _ hA hG R₁ fun vs s₂ x₂ r₂ => ?_
  exact hb.run A s₂ (Ws σ) _ _ _ hA (hG.keeps (R₁.ext x₂.keep).keep) (R₁.ext x₂.keep).ownThere (RDs.cons rd_str r₂) fun v s' x r => hQ v s' ((x₁.trans x₂).trans x) r

theorem RDs.one_inv {h : Heap} {W : List Addr} {d : D} {vs : List Value} (r : RDs h W [d] vs) : ∃ v, vs = [v] ∧ RD h W d v := by
  obtain ⟨v, r', rfl, h1, h2⟩ := r.inv_cons
  rw [h2.inv_nil]; exact ⟨v, rfl, h1⟩
theorem RDs.two_inv {h : Heap} {W : List Addr} {d e : D} {vs : List Value} (r : RDs h W [d, e] vs) : ∃ u v, vs = [u, v] ∧ RD h W d u ∧ RD h W e v := by
  obtain ⟨v, r', rfl, h1, h2⟩ := r.inv_cons
  obtain ⟨u, rfl, h3⟩ := h2.one_inv
  exact ⟨v, u, rfl, h1, h3⟩
theorem rd_list_inv {h : Heap} {W : List Addr} {xs : List D} {v : Value} (r : RD h W (.list xs) v) : ∃ a vs, v = .ref a ∧ a ∉ W ∧ h.IsList a vs.toArray ∧ RDs h W xs vs := by unfold RD at r; exact r

theorem bn_len_list {xs : List D} (hsz : xs.length ≤ 1000000) : BN C "len" [.list xs] (.int xs.length) := by
  constructor; intro A s W vs Q E hA hG hW r hQ
  obtain ⟨v, rfl, r1⟩ := r.one_inv
  obtain ⟨a, us, rfl, _, hl, hus⟩ := rd_list_inv r1
  have e := hus.length
  refine call_len_list hl (by simp [← e]; omega) ?_
  rw [show (us.toArray.size : Int) = (xs.length : Int) by simp [e]]
  exact hQ _ _ Ext.toks rd_int
theorem bn_len_str {x : PySem.Str} (hsz : x.length ≤ 1000000) : BN C "len" [.str x] (.int x.length) := by
  constructor; intro A s W vs Q E hA hG hW r hQ
  obtain ⟨v, rfl, r1⟩ := r.one_inv
  obtain ⟨t, rfl⟩ := rd_str_inv r1
  exact P.len_str (by omega) (hQ _ _ Ext.toks rd_int)
theorem bn_abs {a : Int} : BN C "abs" [.int a] (.int (if a < 0 then -a else a)) := by
  constructor; intro A s W vs Q E hA hG hW r hQ
  obtain ⟨v, rfl, r1⟩ := r.one_inv
  obtain ⟨t, rfl⟩ := rd_int_inv r1
  exact PyProof.Rows.call_abs_int fun u tk => hQ _ _ Ext.toks rd_int
theorem bn_chr {a : Int} (h0 : 0 ≤ a) (h1 : a ≤ 0x10FFFF) : BN C "chr" [.int a] (.str ⟨#[a.toNat]⟩) := by
  constructor; intro A s W vs Q E hA hG hW r hQ
  obtain ⟨v, rfl, r1⟩ := r.one_inv
  obtain ⟨t, rfl⟩ := rd_int_inv r1
  exact P.chr_of_int (by simp; omega) (hQ _ _ Ext.toks rd_str)
theorem bn_ord {c : Nat} : BN C "ord" [.str ⟨#[c]⟩] (.int c) := by
  constructor; intro A s W vs Q E hA hG hW r hQ
  obtain ⟨v, rfl, r1⟩ := r.one_inv
  obtain ⟨t, rfl⟩ := rd_str_inv r1
  exact P.ord_of_char (hQ _ _ Ext.toks rd_int)
end
end Mine
end

section
namespace Mine
open PySem.Calls PySem.Builtin PySem.Builtin.Str

/-! a heap without some of its things -/
open Classical in
noncomputable def without (h : Heap) (bad : Addr → Prop) : Heap := ⟨h.objs.mapIdx fun i o => if bad i then { o with data := .freed } else o, h.life⟩
theorem without_bad {h : Heap} {bad : Addr → Prop} {a : Addr} (hb : bad a) : (without h bad).get? a = none := by
  unfold without Heap.get?
  rw [Array.getElem?_mapIdx]
  cases e : h.objs[a]? with
  | none => rfl
  | some o => rw [Option.map_some, if_pos hb]
theorem without_good {h : Heap} {bad : Addr → Prop} {a : Addr} (hb : ¬ bad a) : (without h bad).get? a = h.get? a := by
  unfold without Heap.get?
  rw [Array.getElem?_mapIdx]
  cases e : h.objs[a]? with
  | none => rfl
  | some o => rw [Option.map_some, if_neg hb]

section
variable {env : Env} {vars : List PySem.Str} {h₀ h h' : Heap} {σ : List LV}
/-- what a frame may write to -/
noncomputable def Mine' (env : Env) (σ : List LV) (a : Addr) : Prop := a ∈ Ws σ ∨ a = env.locals ∨ ∃ x c, env.cells.lookup x = some c ∧ a = c
theorem Rel.rebase (R : Rel env vars h₀ σ h) (hf : env.func ≠ none) : ∃ h₁, (∀ b o, h₀.get? b = some o → h₁.get? b = some o) ∧ Rel env vars h₁ σ h ∧ (∀ b o, h.get? b = some o → ¬ Mine' env σ b → h₁.get? b = some o) ∧ (∀ b o, h₁.get? b = some o → h.get? b = some o) ∧ (∀ b, Mine' env σ b → h₁.get? b = none) := by
  have hold : ∀ b o, h₀.get? b = some o → ¬ Mine' env σ b := by
    rintro b o e (hb | hb | ⟨x, c, hc, rfl⟩)
    · rw [R.ownNew b hb] at e; cases e
    · rw [hb, R.newL] at e; cases e
    · rw [R.cellsNew hf x _ hc] at e; cases e
  refine ⟨without h (Mine' env σ), fun b o e => ?_, ?_, fun b o e hb => by rw [without_good hb]; exact e, fun b o e => ?_, fun b hb => without_bad hb⟩
  · rw [without_good (hold b o e)]; exact R.keep b o e
  · exact ⟨fun b o e => by
      by_cases hb : Mine' env σ b
      · rw [without_bad hb] at e; cases e
      · rwa [without_good hb] at e, R.ns, without_bad (.inr (.inl rfl)), R.cells, fun _ x c hc => without_bad (.inr (.inr ⟨x, c, hc, rfl⟩)), R.apart, R.vals, fun a ha => without_bad (.inl ha), R.nd, R.len⟩
  · by_cases hb : Mine' env σ b
    · rw [without_bad hb] at e; cases e
    · rwa [without_good hb] at e
theorem Rel.under {h₁ : Heap} (R : Rel env vars h₁ σ h) (hk : ∀ b o, h₀.get? b = some o → h₁.get? b = some o) : Rel env vars h₀ σ h := by
  have hn : ∀ b, h₁.get? b = none → h₀.get? b = none := fun b e => by
    cases e' : h₀.get? b with
    | none => rfl
    | some o => rw [hk b o e'] at e; cases e
  exact ⟨fun b o e => R.keep b o (hk b o e), R.ns, hn _ R.newL, R.cells, fun hf x c hc => hn _ (R.cellsNew hf x c hc), R.apart, R.vals, fun a ha => hn _ (R.ownNew a ha), R.nd, R.len⟩

noncomputable def Fielded (h : Heap) (b : Addr) : Prop := ∃ o vs, h.get? b = some o ∧ o.data = .fields vs
theorem Rel.away {wr : List Addr} (R : Rel env vars h₀ σ h) (hk : ∀ b o, b ∉ wr → h.get? b = some o → h'.get? b = some o) (hw : ∀ b ∈ wr, Fielded h b) (hn : ∀ b ∈ wr, h₀.get? b = none) : Rel env vars h₀ σ h' := by
  have kp : ∀ b o, (∀ vs, o.data ≠ .fields vs) → h.get? b = some o → h'.get? b = some o := fun b o hd e => hk b o (fun hb => by
    obtain ⟨o', vs, e', hd'⟩ := hw b hb
    rw [e] at e'; cases e'; exact hd _ hd') e
  have hns : ∀ m, h.Ns env.locals m → h'.Ns env.locals m := fun m hn => by
    obtain ⟨o, es, ep, e, hd, r⟩ := hn
    exact ⟨o, es, ep, kp _ _ (fun vs x => by rw [hd] at x; cases x) e, hd, r⟩
  have hcell : ∀ c v, h.IsCell c v → h'.IsCell c v := fun c v ⟨o, e, hd⟩ => ⟨o, kp _ _ (fun vs x => by rw [hd] at x; cases x) e, hd⟩
  refine ⟨fun b o e => hk b o (fun hb => by rw [hn b hb] at e; cases e) (R.keep b o e), let ⟨m, x⟩ := R.ns; ⟨m, hns m x⟩, R.newL, fun x hx => let ⟨c, v, h1, h2⟩ := R.cells x hx; ⟨c, v, h1, hcell _ _ h2⟩, R.cellsNew, R.apart,
    fun i x lv h1 h2 => (R.vals i x lv h1 h2).rebuild (fun v l => ?_) (fun a o ⟨i, n, hd⟩ e => kp _ _ (fun vs x => by rw [hd] at x; cases x) e), R.ownNew, R.nd, R.len⟩
  rcases l with ⟨k, m₁, hn₁, hv⟩ | ⟨k, c, hc, hv⟩
  · exact .inl ⟨k, m₁, hns _ hn₁, hv⟩
  · exact .inr ⟨k, c, hc, hcell _ _ hv⟩
end

mutual
theorem RD.base {h h' : Heap} {W : List Addr} (hk : ∀ b o, h.get? b = some o → h'.get? b = some o) (hw : ∀ a ∈ W, h.get? a = none) : ∀ (d : D) (v : Value), RD h [] d v → RD h' W d v
  | .none, _, r => r
  | .bool _, _, r => r
  | .int _, _, r => r
  | .str _, _, r => r
  | .thing _, _, r => r
  | .list xs, v, r => by
    unfold RD at r ⊢
    obtain ⟨a, vs, e, ha, hl, hs⟩ := r
    exact ⟨a, vs, e, (fun x => by obtain ⟨o, ho, _⟩ := hl; rw [hw a x] at ho; cases ho), isList_keep hk hl, RDs.base hk hw xs vs hs⟩
theorem RDs.base {h h' : Heap} {W : List Addr} (hk : ∀ b o, h.get? b = some o → h'.get? b = some o) (hw : ∀ a ∈ W, h.get? a = none) : ∀ (xs : List D) (vs : List Value), RDs h [] xs vs → RDs h' W xs vs
  | [], _, r => by unfold RDs at r ⊢; exact r
  | x :: xs, vs, r => by
    unfold RDs at r ⊢
    obtain ⟨v, r', e, h1, h2⟩ := r
    exact ⟨v, r', e, RD.base hk hw x v h1, RDs.base hk hw xs r' h2⟩
end
mutual
theorem RD.toBase {h h₁ : Heap} {W : List Addr} (hk : ∀ b o, (∃ i n, o.data = .seq i n) → b ∉ W → h.get? b = some o → h₁.get? b = some o) : ∀ (d : D) (v : Value), RD h W d v → RD h₁ [] d v
  | .none, _, r => r
  | .bool _, _, r => r
  | .int _, _, r => r
  | .str _, _, r => r
  | .thing _, _, r => r
  | .list xs, v, r => by
    unfold RD at r ⊢
    obtain ⟨a, vs, e, ha, ⟨o, ho, hc, n, hd⟩, hs⟩ := r
    exact ⟨a, vs, e, List.not_mem_nil, ⟨o, hk a o ⟨_, _, hd⟩ ha ho, hc, n, hd⟩, RDs.toBase hk xs vs hs⟩
theorem RDs.toBase {h h₁ : Heap} {W : List Addr} (hk : ∀ b o, (∃ i n, o.data = .seq i n) → b ∉ W → h.get? b = some o → h₁.get? b = some o) : ∀ (xs : List D) (vs : List Value), RDs h W xs vs → RDs h₁ [] xs vs
  | [], _, r => by unfold RDs at r ⊢; exact r
  | x :: xs, vs, r => by
    unfold RDs at r ⊢
    obtain ⟨v, r', e, h1, h2⟩ := r
    exact ⟨v, r', e, RD.toBase hk x v h1, RDs.toBase hk xs r' h2⟩
end
theorem Rel.seqGood {env : Env} {vars : List PySem.Str} {h₀ h : Heap} {σ : List LV} (R : Rel env vars h₀ σ h) (hc : ∀ x c, env.cells.lookup x = some c → ∃ v, h.IsCell c v) {b : Addr} {o : Obj} (hs : ∃ i n, o.data = .seq i n) (hb : b ∉ Ws σ) (e : h.get? b = some o) : ¬ Mine' env σ b := by
  obtain ⟨i, n, hd⟩ := hs
  rintro (h1 | h1 | ⟨x, c, h1, rfl⟩)
  · exact hb h1
  · obtain ⟨m, o', es, ep, ho', hd', _⟩ := R.ns
    rw [h1, ho'] at e; cases e; rw [hd'] at hd; cases hd
  · obtain ⟨v, o', ho', hd'⟩ := hc x _ h1
    rw [ho'] at e; cases e; rw [hd'] at hd; cases hd

/-! statements -/
inductive Out where
  | next (σ : List LV)
  | brk (σ : List LV)
  | cont (σ : List LV)
  | ret (d : D)
structure Mv (q : Bool) (s s' : Shared) : Prop where
  gens : GX q s.gens s'.gens
  os : s'.os = s.os
  drawn : s'.drawn = s.drawn
theorem Mv.refl (q : Bool) (s : Shared) : Mv q s s := ⟨GX.refl .., rfl, rfl⟩
theorem Mv.trans {q : Bool} {s s' s'' : Shared} (x : Mv q s s') (y : Mv q s' s'') : Mv q s s'' := ⟨x.gens.trans y.gens, y.os.trans x.os, y.drawn.trans x.drawn⟩
theorem Ext.mv {q : Bool} {s s' : Shared} (x : Ext q s s') : Mv q s s' := ⟨x.gens, x.os, x.drawn⟩
theorem Mv.heap {q : Bool} {s : Shared} {h' : Heap} {tk : Nat} : Mv q s { s with heap := h', toks := tk } := ⟨GX.refl .., rfl, rfl⟩

noncomputable def Ends (C : Cx) (h₀ : Heap) (P : Out → Prop) (f : Flow) (s' : Shared) : Prop := match f with
  | .next => ∃ σ', P (.next σ') ∧ Rel C.env C.vars h₀ σ' s'.heap
  | .brk => ∃ σ', P (.brk σ') ∧ Rel C.env C.vars h₀ σ' s'.heap
  | .cont => ∃ σ', P (.cont σ') ∧ Rel C.env C.vars h₀ σ' s'.heap
  | .ret v => ∃ d, P (.ret d) ∧ RD s'.heap [] d v ∧ ∀ b o, h₀.get? b = some o → s'.heap.get? b = some o
structure SS (C : Cx) (σ : List LV) (ss : List Stmt) (P : Out → Prop) : Prop where
  run : ∀ (A : Around) (h₀ : Heap) (s : Shared) (Q : Flow → Shared → Prop) (E : Value → Shared → Prop), AOK C.n A → GC C.K C.mg C.mb h₀ → Rel C.env C.vars h₀ σ s.heap →
    (∀ f s', Mv C.q s s' → Ends C h₀ P f s' → Q f s') → wpAny (model C.prog C.w) A (execs ss C.env) Q E s
structure S1 (C : Cx) (σ : List LV) (st : Stmt) (P : Out → Prop) : Prop where
  run : ∀ (A : Around) (h₀ : Heap) (s : Shared) (Q : Flow → Shared → Prop) (E : Value → Shared → Prop), AOK C.n A → GC C.K C.mg C.mb h₀ → Rel C.env C.vars h₀ σ s.heap →
    (∀ f s', Mv C.q s s' → Ends C h₀ P f s' → Q f s') → wpAny (model C.prog C.w) A (exec st C.env) Q E s
/-- the frame is a def's -/
structure Cx.Fn (C : Cx) : Prop extends C.Ok where
  func : C.env.func ≠ none
  nd : C.vars.Nodup
  own : ∀ x c, C.env.cells.lookup x = some c → C.env.kindOf x = some .cell
  dbg : interactive C.env = false

section
variable {C : Cx} {σ : List LV}
noncomputable def Then (C : Cx) (rest : List Stmt) (P : Out → Prop) : Out → Prop
  | .next σ' => SS C σ' rest P
  | o => P o
theorem ss_nil {P : Out → Prop} (h : P (.next σ)) : SS C σ [] P := by
  constructor; intro A h₀ s Q E hA hG hR hQ
  exact wpAny_execs_nil (hQ _ s (Mv.refl ..) ⟨σ, h, hR⟩)
theorem ss_cons {st : Stmt} {rest : List Stmt} {P : Out → Prop} (h : S1 C σ st (Then C rest P)) : SS C σ (st :: rest) P := by
  constructor; intro A h₀ s Q E hA hG hR hQ
  refine wpAny_execs_cons (h.run A h₀ s _ _ hA hG hR fun f s₁ x₁ e₁ => ?_)
  cases f with
  | next =>
    obtain ⟨σ', h1, R₁⟩ := e₁
    exact h1.run A h₀ s₁ Q E hA hG R₁ fun f s₂ x₂ e₂ => hQ f s₂ (x₁.trans x₂) e₂
  | brk => obtain ⟨σ', h1, R₁⟩ := e₁; exact hQ _ s₁ x₁ ⟨σ', h1, R₁⟩
  | cont => obtain ⟨σ', h1, R₁⟩ := e₁; exact hQ _ s₁ x₁ ⟨σ', h1, R₁⟩
  | ret v => obtain ⟨d, h1, r⟩ := e₁; exact hQ _ s₁ x₁ ⟨d, h1, r⟩
theorem ss_mono {ss : List Stmt} {P P' : Out → Prop} (h : SS C σ ss P) (hp : ∀ o, P o → P' o) : SS C σ ss P' := by
  constructor; intro A h₀ s Q E hA hG hR hQ
  refine h.run A h₀ s Q E hA hG hR fun f s' x e => hQ f s' x ?_
  cases f with
  | next => obtain ⟨σ', h1, r⟩ := e; exact ⟨σ', hp _ h1, r⟩
  | brk => obtain ⟨σ', h1, r⟩ := e; exact ⟨σ', hp _ h1, r⟩
  | cont => obtain ⟨σ', h1, r⟩ := e; exact ⟨σ', hp _ h1, r⟩
  | ret v => obtain ⟨d, h1, r⟩ := e; exact ⟨d, hp _ h1, r⟩

theorem s1_assign {x : PySem.Str} {px pos : Pos} {e : Expr} {d : D} {P : Out → Prop} (i : Nat) (hF : C.Fn) (hi : C.vars[i]? = some x) (hx : C.env.kindOf x = some .local ∨ C.env.kindOf x = some .cell)
    (he : SE C σ e d) (hP : P (.next (σ.set i (.val d)))) (hs : swapsWith e (some (.Name x px)) pos.line C.env = pure false := by rfl) : S1 C σ (.Assign [.Name x px] e pos) P := by
  constructor; intro A h₀ s Q E hA hG hR hQ
  refine wpAny_Assign_Name (he.run A h₀ s _ _ hA hG hR fun v s₁ x₁ r₁ => ?_) hs
  exact store_val (hR.ext x₁.keep) hF.kind hF.func hi hF.nd hx r₁ fun h' tk R' => hQ _ _ (x₁.mv.trans Mv.heap) ⟨_, hP, R'⟩
theorem s1_own {x : PySem.Str} {px lp pos : Pos} {P : Out → Prop} (i : Nat) (hF : C.Fn) (hi : C.vars[i]? = some x) (hx : C.env.kindOf x = some .local ∨ C.env.kindOf x = some .cell)
    (hP : ∀ a, P (.next (σ.set i (.own a [])))) : S1 C σ (.Assign [.Name x px] (.List [] lp) pos) P := by
  constructor; intro A h₀ s Q E hA hG hR hQ
  refine wpAny_Assign_Name (wpAny_List_spliced (wpAny_pure ⟨by decide, ?_⟩)) (by rfl)
  exact store_own (n := 0) hR hF.kind hF.func hi hF.nd hx fun a h' tk R' => hQ _ _ ⟨GX.refl .., rfl, rfl⟩ ⟨_, hP a, R'⟩

structure Op2I (C : Cx) (op : Operator) (d₁ d₂ d : D) : Prop where
  run : ∀ (A : Around) (s : Shared) (W : List Addr) (a b : Value) (Q : Value → Shared → Prop) (E : Value → Shared → Prop), AOK C.n A → RT s.heap W d₁ a → RT s.heap W d₂ b →
  (∀ v s', Ext C.q s s' → RD s'.heap W d v → Q v s') → wpAny (model C.prog C.w) A (inplaceOp op a b) Q E s
theorem iop_add {a b : Int} : Op2I C .Add (.int a) (.int b) (.int (a + b)) := by
  constructor; intro A s W u v Q E hA r₁ r₂ hQ
  obtain ⟨t, rfl⟩ := rt_int r₁; obtain ⟨t', rfl⟩ := rt_int r₂
  exact P.iadd_int (hQ _ _ Ext.toks rd_int)
theorem iop_sub {a b : Int} : Op2I C .Sub (.int a) (.int b) (.int (a - b)) := by
  constructor; intro A s W u v Q E hA r₁ r₂ hQ
  obtain ⟨t, rfl⟩ := rt_int r₁; obtain ⟨t', rfl⟩ := rt_int r₂
  exact P.isub_int (hQ _ _ Ext.toks rd_int)
theorem iop_or {a b : Int} : Op2I C .BitOr (.int a) (.int b) (.int (Builtin.bitOr a b)) := by
  constructor; intro A s W u v Q E hA r₁ r₂ hQ
  obtain ⟨t, rfl⟩ := rt_int r₁; obtain ⟨t', rfl⟩ := rt_int r₂
  exact PyProof.Rows.ior_int (hQ _ _ Ext.toks rd_int)
theorem iop_xor {a b : Int} : Op2I C .BitXor (.int a) (.int b) (.int (Builtin.bitXor a b)) := by
  constructor; intro A s W u v Q E hA r₁ r₂ hQ
  obtain ⟨t, rfl⟩ := rt_int r₁; obtain ⟨t', rfl⟩ := rt_int r₂
  exact PyProof.Rows.ixor_int (hQ _ _ Ext.toks rd_int)
theorem iop_shl {a b : Int} (h0 : 0 ≤ b) (h1 : b ≤ 1000000) (ha : a.natAbs < 2 ^ 64) : Op2I C .LShift (.int a) (.int b) (.int (a * 2 ^ b.toNat)) := by
  constructor; intro A s W u v Q E hA r₁ r₂ hQ
  obtain ⟨t, rfl⟩ := rt_int r₁; obtain ⟨t', rfl⟩ := rt_int r₂
  exact PyProof.Rows.ilshift_int_small h0 h1 ha (hQ _ _ Ext.toks rd_int)
theorem s1_aug {x : PySem.Str} {px pos : Pos} {op : Operator} {e : Expr} {d₁ d₂ d : D} {P : Out → Prop} (i : Nat) (hF : C.Fn) (hi : C.vars[i]? = some x) (hx : C.env.kindOf x = some .local ∨ C.env.kindOf x = some .cell)
    (hv : σ[i]? = some (.val d₁)) (he : SE C σ e d₂) (ho : Op2I C op d₁ d₂ d) (hP : P (.next (σ.set i (.val d)))) (hn : (x == ("__classdict__" : PySem.Str)) = false := by decide +kernel) : S1 C σ (.AugAssign (.Name x px) op e pos) P := by
  constructor; intro A h₀ s Q E hA hG hR hQ
  obtain ⟨v, l, r⟩ := hR.vals i x _ hi hv
  refine wpAny_AugAssign_Name (look_wp hF.kind l ?_ hn)
  refine he.run A h₀ s _ _ hA hG hR fun u s₁ x₁ r₁ => ?_
  refine ho.run A s₁ (Ws σ) v u _ _ hA (r.keep x₁.keep).toRT r₁.toRT fun z s₂ x₂ r₂ => ?_
  exact store_val ((hR.ext x₁.keep).ext x₂.keep) hF.kind hF.func hi hF.nd hx r₂ fun h' tk R' => hQ _ _ ((x₁.trans x₂).mv.trans Mv.heap) ⟨_, hP, R'⟩

theorem s1_if {t : Expr} {body orelse : List Stmt} {pos : Pos} {b : Bool} {P : Out → Prop} (ht : ST C σ t b) (h1 : b = true → SS C σ body P) (h2 : b = false → SS C σ orelse P) : S1 C σ (.If t body orelse pos) P := by
  constructor; intro A h₀ s Q E hA hG hR hQ
  refine wpAny_If (ht.run A h₀ s _ _ hA hG hR fun s₁ x₁ => ?_)
  cases b with
  | true => simp only [if_true]; exact (h1 rfl).run A h₀ s₁ Q E hA hG (hR.ext x₁.keep) fun f s₂ x₂ e => hQ f s₂ (x₁.mv.trans x₂) e
  | false => simp only [Bool.false_eq_true, if_false]; exact (h2 rfl).run A h₀ s₁ Q E hA hG (hR.ext x₁.keep) fun f s₂ x₂ e => hQ f s₂ (x₁.mv.trans x₂) e
theorem s1_return {e : Expr} {pos : Pos} {d : D} {P : Out → Prop} (he : SEt C σ e d) (hP : P (.ret d)) : S1 C σ (.Return (some e) pos) P := by
  constructor; intro A h₀ s Q E hA hG hR hQ
  exact wpAny_Return_some (he.run A h₀ s _ _ hA hG hR fun v s₁ x₁ r₁ => hQ _ _ x₁.mv ⟨d, hP, r₁.loose, (hR.ext x₁.keep).keep⟩)
theorem s1_break {pos : Pos} {P : Out → Prop} (hP : P (.brk σ)) : S1 C σ (.Break pos) P := by
  constructor; intro A h₀ s Q E hA hG hR hQ
  exact wpAny_Break (hQ _ _ (Mv.refl ..) ⟨σ, hP, hR⟩)
theorem s1_assert {t : Expr} {m : Option Expr} {pos : Pos} {P : Out → Prop} (ht : ST C σ t true) (hP : P (.next σ)) : S1 C σ (.Assert t m pos) P := by
  constructor; intro A h₀ s Q E hA hG hR hQ
  exact wpAny_Assert_holds (ht.run A h₀ s _ _ hA hG hR fun s₁ x₁ => ⟨rfl, hQ _ _ x₁.mv ⟨σ, hP, hR.ext x₁.keep⟩⟩)
end
end Mine
end

section
namespace Mine
open PySem.Calls PySem.Builtin PySem.Builtin.Str

section
variable {C : Cx} {σ : List LV}
theorem Cx.Fn.cells (hF : C.Fn) {h₀ h : Heap} (R : Rel C.env C.vars h₀ σ h) : ∀ x c, C.env.cells.lookup x = some c → ∃ v, h.IsCell c v := fun x c e => by
  obtain ⟨c', v, e', hv⟩ := R.cells x (hF.own x c e)
  rw [e] at e'; cases e'; exact ⟨v, hv⟩
/-- a base under which the values at hand lie -/
theorem Cx.Fn.base (hF : C.Fn) {h₀ h : Heap} (R : Rel C.env C.vars h₀ σ h) : ∃ h₁, (∀ b o, h₀.get? b = some o → h₁.get? b = some o) ∧ Rel C.env C.vars h₁ σ h ∧ (∀ b o, h.get? b = some o → ¬ Mine' C.env σ b → h₁.get? b = some o) ∧
    (∀ b o, h₁.get? b = some o → h.get? b = some o) ∧ (∀ d v, RD h (Ws σ) d v → RD h₁ [] d v) ∧ (∀ d v, RDs h (Ws σ) d v → RDs h₁ [] d v) := by
  obtain ⟨h₁, k1, R₁, k2, k3, k4⟩ := R.rebase hF.func
  exact ⟨h₁, k1, R₁, k2, k3, RD.toBase fun b o hs hb e => k2 b o e (R.seqGood (hF.cells R) hs hb e), RDs.toBase fun b o hs hb e => k2 b o e (R.seqGood (hF.cells R) hs hb e)⟩
theorem s1_append {x : PySem.Str} {px apos cpos epos : Pos} {e : Expr} {a : Addr} {xs : List D} {d : D} {P : Out → Prop} (i : Nat) (hF : C.Fn) (hi : C.vars[i]? = some x)
    (hv : σ[i]? = some (.own a xs)) (he : SE C σ e d) (hsz : xs.length ≤ 1000000) (hP : P (.next (σ.set i (.own a (xs ++ [d])))))
    (hst : ∀ env, (starEach [e] env) = [(false, eval e env)] := by intro _; rfl)
    (hfew : ∀ env, ((backTo cpos (starEach [e] env)).all (fun x => !x.1) && (backToKw cpos (keywordEach [] env)).all (fun x => x.1.isSome) && decide (([e] : List Expr).length + ([] : List Keyword).length + (if ([] : List Keyword).isEmpty then 0 else 1) < 30)) = true := by intro _; rfl)
    (hline : (apos.endLine == cpos.line) = true := by decide) (hbase : ∀ env, attributeBase (.Name x px) "append" env (eval (.Name x px) env) = eval (.Name x px) env := by intro _; rfl)
    (hd : (x == ("__debug__" : PySem.Str)) = false := by decide +kernel) (hn : (x == ("__classdict__" : PySem.Str)) = false := by decide +kernel)
    (hs : ∀ env, swapsWith (.Call (.Attribute (.Name x px) "append" apos) [e] [] cpos) none epos.line env = pure false := by intro _; rfl) :
    S1 C σ (.Expr (.Call (.Attribute (.Name x px) "append" apos) [e] [] cpos) epos) P := by
  constructor; intro A h₀ s Q E hA hG hR hQ
  refine wpAny_Expr_any ?_ hF.dbg (hs _)
  refine wpAny_Call_method_lateS (hbase _) (hfew _) hline ?_
  obtain ⟨vs, l, hl, r⟩ := hR.vals i x _ hi hv
  refine wpAny_Name (look_wp hF.kind l ?_ hn) hd
  refine ⟨"list", "list.append", PySem.F.plainAttrs_list, slot_list_append, type_list_append, hl.isList.typeIs, fun b eb => ?_, ?_⟩
  · cases eb; obtain ⟨n, g⟩ := hl; exact ⟨_, g, rfl⟩
  have ht : backTo cpos (starEach [e] C.env) = [(false, eval e C.env)] := by rw [hst]; rfl
  rw [ht]
  refine callWith_builtin rfl (evalArgs_plain (spliced_cons (he.run A h₀ s _ _ hA hG hR fun v s₁ x₁ r₁ => wpAny_pure ?_)))
  have R₁ := hR.ext x₁.keep
  have hl₁ := hl.at (x₁.keep a)
  have hlen := r.length
  show wpAny _ _ (call (.builtin "list.append") [.ref a, v]) _ _ s₁
  refine wpAny_list_append_plain hl₁ (fun h' hl' hs' => hQ _ _ (x₁.mv.trans Mv.heap) ⟨_, hP, ?_⟩) (by simp [← hlen]; exact Nat.le_trans hsz (by decide))
  exact R₁.write (us := vs ++ [v]) hv hs' (by simpa using hl') ((r.keep x₁.keep).append (RDs.cons r₁ RDs.nil))

theorem s1_pop {x : PySem.Str} {px apos cpos epos : Pos} {a : Addr} {xs : List D} {d : D} {P : Out → Prop} (i : Nat) (hF : C.Fn) (hi : C.vars[i]? = some x)
    (hv : σ[i]? = some (.own a (xs ++ [d]))) (hsz : xs.length ≤ 1000000) (hP : P (.next (σ.set i (.own a xs))))
    (hline : (apos.endLine == cpos.line) = true := by decide) (hbase : ∀ env, attributeBase (.Name x px) "pop" env (eval (.Name x px) env) = eval (.Name x px) env := by intro _; rfl)
    (hd : (x == ("__debug__" : PySem.Str)) = false := by decide +kernel) (hn : (x == ("__classdict__" : PySem.Str)) = false := by decide +kernel)
    (hs : ∀ env, swapsWith (.Call (.Attribute (.Name x px) "pop" apos) [] [] cpos) none epos.line env = pure false := by intro _; rfl) :
    S1 C σ (.Expr (.Call (.Attribute (.Name x px) "pop" apos) [] [] cpos) epos) P := by
  constructor; intro A h₀ s Q E hA hG hR hQ
  refine wpAny_Expr_any ?_ hF.dbg (hs _)
  refine wpAny_Call_method_lateS (hbase _) rfl hline ?_
  obtain ⟨vs, l, hl, r⟩ := hR.vals i x _ hi hv
  refine wpAny_Name (look_wp hF.kind l ?_ hn) hd
  refine ⟨"list", "list.pop", PySem.F.plainAttrs_list, PySem.F.slot_list_pop, PySem.F.type_list_pop, hl.isList.typeIs, fun b eb => ?_, ?_⟩
  · cases eb; obtain ⟨n, g⟩ := hl; exact ⟨_, g, rfl⟩
  obtain ⟨n, g⟩ := id hl
  have hlen := r.length
  simp only [List.length_append, List.length_singleton] at hlen
  obtain ⟨us, v, rfl⟩ : ∃ us v, vs = us ++ [v] := by
    rcases List.eq_nil_or_concat vs with rfl | ⟨us, v, rfl⟩
    · simp at hlen
    · exact ⟨us, v, by simp⟩
  have hl2 : us.length = xs.length := by simp at hlen; omega
  have hr : RDs s.heap (Ws σ) xs us := by have := r.take xs.length; rw [List.take_left, ← hl2, List.take_left] at this; exact this
  show wpAny _ _ (callWith cpos (.builtin "list.pop") [.ref a] [] []) _ _ s
  refine PySem.P.pop_list (y := v) (items := (us ++ [v]).toArray) (n := n) g (by simp) ?_ (by simp [hl2]; exact Nat.le_trans (Nat.succ_le_succ hsz) (by decide))
  refine hQ _ _ Mv.heap ⟨_, hP, ?_⟩
  refine hR.write (us := us) hv (Heap.SameBut.update ..) ?_ hr
  have e : ((us ++ [v]).toArray.eraseIdxIfInBounds ((us ++ [v]).toArray.size - 1)) = us.toArray := by
    apply Array.toList_inj.mp
    simp [List.eraseIdx_append_of_length_le]
  have e' : ∃ n', (Obj.mapSeq (fun xs => xs.eraseIdxIfInBounds ((us ++ [v]).toArray.size - 1)) { cls := .type "list", data := .seq (us ++ [v]).toArray n }) = { cls := .type "list", data := .seq ((us ++ [v]).toArray.eraseIdxIfInBounds ((us ++ [v]).toArray.size - 1)) n' } := ⟨_, rfl⟩
  obtain ⟨n', e'⟩ := e'
  rw [e] at e'
  exact ⟨n', (Heap.get?_update_self _ g rfl).trans (congrArg some e')⟩

theorem s1_assign2 {x y : PySem.Str} {px py tp vp pos : Pos} {k k' : Nat} {e₁ e₂ : Expr} {d₁ d₂ : D} {P : Out → Prop} (i j : Nat) (hF : C.Fn) (hi : C.vars[i]? = some x) (hj : C.vars[j]? = some y) (hx : C.env.kindOf x = some .local) (hy : C.env.kindOf y = some .local)
    (he : SEl C σ vp [e₁, e₂] [d₁, d₂]) (hP : P (.next ((σ.set j (.val d₂)).set i (.val d₁))))
    (hs : swapsWithSole [.Tuple [.Name x px, .Name y py] k tp] (.Tuple [e₁, e₂] k' vp) pos.line C.env = pure false := by rfl)
    (hw : swappedStores [.Tuple [.Name x px, .Name y py] k tp] (.Tuple [e₁, e₂] k' vp) C.env = pure (some [x, y]) := by rfl) :
    S1 C σ (.Assign [.Tuple [.Name x px, .Name y py] k tp] (.Tuple [e₁, e₂] k' vp) pos) P := by
  constructor; intro A h₀ s Q E hA hG hR hQ
  refine Assign_Tuple_swapped (wpAny_Tuple_spliced (he.run A h₀ s _ _ hA hG hR fun vs s₁ x₁ r₁ => ?_)) hs hw
  obtain ⟨u, v, rfl, hu, hv⟩ := r₁.two_inv
  refine ⟨(by decide : 2 ≤ sizeLine), ?_⟩
  have R₁ := hR.ext x₁.keep
  have hkp : ∀ b o, s₁.heap.get? b = some o → (s₁.heap.push { cls := .type "tuple", data := .seq [u, v].toArray }).get? b = some o := fun b o e => Heap.get?_push_of_some _ e
  refine unpackItems_tuple (items := #[u, v]) hA.handled ⟨_, Heap.get?_push_size _ rfl, rfl, _, rfl⟩ fun h' hx' => ?_
  have hk' : ∀ b o, s₁.heap.get? b = some o → h'.get? b = some o := fun b o e => hx' b o (Nat.ne_of_lt (Heap.lt_size (hkp b o e))) (hkp b o e)
  have R₂ : Rel C.env C.vars h₀ σ h' := R₁.ext hk'
  obtain ⟨h₁, k1, R₂', _, _, kb, _⟩ := hF.base R₂
  have hu' := kb _ _ (hu.keep hk')
  refine assignInOrder_cons (wpAny_bindName ?_)
  refine store_val (s := { s₁ with heap := h' }) R₂' hF.kind hF.func hj hF.nd (.inl hy) (hv.keep hk') fun h₃ tk₃ R₃ => ?_
  refine assignInOrder_cons (wpAny_bindName ?_)
  refine store_val (s := { s₁ with heap := h₃, toks := tk₃ }) R₃ hF.kind hF.func hi hF.nd (.inl hx) (hu'.base R₃.keep R₃.ownNew) fun h₄ tk₄ R₄ => ?_
  exact assignInOrder_nil (hQ _ _ (x₁.mv.trans Mv.heap) ⟨_, hP, R₄.under k1⟩)

/-! loops -/
theorem Cx.Fn.old (hF : C.Fn) {h₀ h : Heap} (R : Rel C.env C.vars h₀ σ h) {b : Addr} {o : Obj} (e : h₀.get? b = some o) : ¬ Mine' C.env σ b := by
  rintro (hb | hb | ⟨x, c, hc, rfl⟩)
  · rw [R.ownNew b hb] at e; cases e
  · rw [hb, R.newL] at e; cases e
  · rw [R.cellsNew hF.func x _ hc] at e; cases e
theorem Cx.Fn.fielded (hF : C.Fn) {h₀ h : Heap} (R : Rel C.env C.vars h₀ σ h) {b : Addr} (hb : Fielded h b) : ¬ Mine' C.env σ b := by
  obtain ⟨o, vs, e, hd⟩ := hb
  rintro (h1 | h1 | ⟨x, c, h1, rfl⟩)
  · obtain ⟨items, n, g⟩ := R.ownPlain h1
    rw [g] at e; cases e; cases hd
  · obtain ⟨m, o', es, ep, ho', hd', _⟩ := R.ns
    rw [h1, ho'] at e; cases e; rw [hd'] at hd; cases hd
  · obtain ⟨v, o', ho', hd'⟩ := hF.cells R x _ h1
    rw [ho'] at e; cases e; rw [hd'] at hd; cases hd
structure SI (C : Cx) (σ : List LV) (e : Expr) (ds : List D) : Prop where
  run : ∀ (A : Around) (h₀ : Heap) (s : Shared) (Q : Value → Shared → Prop) (E : Value → Shared → Prop), AOK C.n A → GC C.K C.mg C.mb h₀ → Rel C.env C.vars h₀ σ s.heap →
    (∀ (I : Addr) (s₁ s₂ : Shared) (fp : List Addr) (Pv : Nat → Value → Prop) (St : Nat → Heap → Prop), Ext C.q s s₁ → Ext C.q s₁ s₂ → Walks C.prog C.w A I fp [I] ds.length Pv St → St 0 s₂.heap → s₁.heap.get? I = none → (∀ i h, St i h → Fielded h I) →
      (∀ b ∈ fp, b = I ∨ (b ∉ Ws σ ∧ ∃ o, s₁.heap.get? b = some o ∧ ∃ i n, o.data = .seq i n)) → (∀ i v, i < ds.length → Pv i v → ∃ d, ds[i]? = some d ∧ RD s₁.heap (Ws σ) d v) → Q (.ref I) s₂) →
    wpAny (model C.prog C.w) A (eval e C.env) (fun x s₁ => wpAny (model C.prog C.w) A (pyIter x) Q E s₁) E s

theorem s1_for {x : PySem.Str} {px pos : Pos} {e : Expr} {ds : List D} {body orelse : List Stmt} {P : Out → Prop} (i : Nat) (hF : C.Fn) (hi : C.vars[i]? = some x) (hx : C.env.kindOf x = some .local ∨ C.env.kindOf x = some .cell)
    (he : SI C σ e ds) (Inv : Nat → List LV → Prop) (h0 : Inv 0 σ)
    (step : ∀ k σ d, ds[k]? = some d → Inv k σ → SS C (σ.set i (.val d)) body fun o => match o with | .next σ' => Inv (k + 1) σ' | .cont σ' => Inv (k + 1) σ' | .brk σ' => P (.next σ') | .ret d => P (.ret d))
    (fin : ∀ σ, Inv ds.length σ → SS C σ orelse P) (hs : ∀ x, foldedSetIterable e C.env x = pure x := by intro _; rfl) : S1 C σ (.For (.Name x px) e body orelse pos) P := by
  constructor; intro A h₀ s Q E hA hG hR hQ
  refine wpAny_For (he.run A h₀ s _ _ hA hG hR fun I s₁ s₂ fp Pv St x₁ x₂ W st0 hI hfd hfp hpv => ?_) hs
  have R₁ := hR.ext x₁.keep
  obtain ⟨hb, kb, Rb, kgood, kunder, kRD, _⟩ := hF.base R₁
  have hIb : hb.get? I = none := by
    cases e : hb.get? I with
    | none => rfl
    | some o => rw [kunder I o e] at hI; cases hI
  have hGb := hG.keeps kb
  have hfpb : ∀ b ∈ fp, b = I ∨ ∃ o, hb.get? b = some o := fun b hm => by
    rcases hfp b hm with h | ⟨hw, o, ho, hsq⟩
    · exact .inl h
    · exact .inr ⟨o, kgood b o ho (R₁.seqGood (hF.cells R₁) hsq hw ho)⟩
  refine codeAny_forLoop (fun n s' => ∃ k σ', n = ds.length - k ∧ k ≤ ds.length ∧ Inv k σ' ∧ Rel C.env C.vars hb σ' s'.heap ∧ St k s'.heap ∧ Mv C.q s s') ?_ (ds.length - 0) ⟨0, σ, rfl, Nat.zero_le _, h0, Rb.ext x₂.keep, st0, x₁.mv.trans x₂.mv⟩
  rintro n s' ⟨k, σ', rfl, hk, hinv, R', st, mv⟩
  have away : ∀ h', (∀ b o, b ∉ [I] → s'.heap.get? b = some o → h'.get? b = some o) → Rel C.env C.vars hb σ' h' := fun h' hkp => R'.away hkp (fun b hm => by simp at hm; subst hm; exact hfd _ _ st) (fun b hm => by simp at hm; subst hm; exact hIb)
  by_cases hlt : k < ds.length
  · refine W.item k s' _ _ hlt st fun v h' tk hv st' hkp => ?_
    obtain ⟨d, hd, hrd⟩ := hpv k v hlt hv
    have R₃ := away h' hkp
    obtain ⟨h₁, k1, R₃', good, _, _, _⟩ := hF.base R₃
    refine wpAny_assign_Name (store_val (s := { s' with heap := h', toks := tk }) R₃' hF.kind hF.func hi hF.nd hx ((kRD _ _ hrd).base (fun b o e => R₃'.keep b o (k1 b o e)) (fun a ha => R₃.ownNew a ha)) fun h₄ tk₄ R₄ => ?_)
    refine (step k σ' d hd hinv).run A h₁ _ _ _ hA (hGb.keeps k1) R₄ fun f s₅ x₅ e₅ => ?_
    have stE : ∀ h₅, (∀ b o, h₁.get? b = some o → h₅.get? b = some o) → St (k + 1) h₅ := fun h₅ kp => W.frame _ _ _ st' fun b hbf o e => by
      refine kp b o (good b o e ?_)
      rcases hfpb b hbf with rfl | ⟨o', ho'⟩
      · exact hF.fielded R₃ (hfd _ _ st')
      · exact hF.old R₃ ho'
    have mv₅ : Mv C.q s s₅ := (mv.trans Mv.heap).trans x₅
    cases f with
    | next =>
      obtain ⟨σ₅, h5, R₅⟩ := e₅
      exact ⟨ds.length - (k + 1), by omega, k + 1, σ₅, rfl, hlt, h5, R₅.under k1, stE _ R₅.keep, mv₅⟩
    | cont =>
      obtain ⟨σ₅, h5, R₅⟩ := e₅
      exact ⟨ds.length - (k + 1), by omega, k + 1, σ₅, rfl, hlt, h5, R₅.under k1, stE _ R₅.keep, mv₅⟩
    | brk =>
      obtain ⟨σ₅, h5, R₅⟩ := e₅
      exact hQ _ _ mv₅ ⟨σ₅, h5, (R₅.under k1).under kb⟩
    | ret v =>
      obtain ⟨d₅, h5, r₅, kp₅⟩ := e₅
      exact hQ _ _ mv₅ ⟨d₅, h5, r₅, fun b o e => kp₅ b o (k1 b o (kb b o e))⟩
  · have hkn : k = ds.length := by omega
    subst hkn
    refine W.done s' _ _ st fun h' tk hkp => ?_
    have R₃ := away h' hkp
    refine (fin σ' hinv).run A hb { s' with heap := h', toks := tk } _ _ hA hGb R₃ fun f s₄ x₄ e₄ => hQ _ _ ((mv.trans Mv.heap).trans x₄) ?_
    cases f with
    | next => obtain ⟨σ₅, h5, R₅⟩ := e₄; exact ⟨σ₅, h5, R₅.under kb⟩
    | cont => obtain ⟨σ₅, h5, R₅⟩ := e₄; exact ⟨σ₅, h5, R₅.under kb⟩
    | brk => obtain ⟨σ₅, h5, R₅⟩ := e₄; exact ⟨σ₅, h5, R₅.under kb⟩
    | ret v => obtain ⟨d₅, h5, r₅, kp₅⟩ := e₄; exact ⟨d₅, h5, r₅, fun b o e => kp₅ b o (kb b o e)⟩
end
end Mine
end

section
namespace Mine
open PySem.Calls PySem.Builtin PySem.Builtin.Str

section
variable {C : Cx} {σ : List LV}
theorem si_list {e : Expr} {xs : List D} (he : SE C σ e (.list xs)) : SI C σ e xs := by
  constructor; intro A h₀ s Q E hA hG hR hQ
  refine he.run A h₀ s _ _ hA hG hR fun v s₁ x₁ r₁ => ?_
  obtain ⟨a, vs, rfl, ha, hl, hvs⟩ := rd_list_inv r₁
  have hlen := hvs.length
  have hne : a ≠ s₁.heap.objs.size := by
    rintro rfl
    obtain ⟨o, ho, _⟩ := hl
    exact absurd (Heap.lt_size ho) (Nat.lt_irrefl _)
  refine wpAny_pyIter_list hl ?_
  have W := Walks.list (prog := C.prog) (w := C.w) hA.handled s₁.heap.objs.size a hne vs.toArray
  refine hQ s₁.heap.objs.size s₁ _ [s₁.heap.objs.size, a] (fun i v => vs.toArray[i]? = some v) (fun i h => h.IsListIter s₁.heap.objs.size a i ∧ h.IsList a vs.toArray) x₁ Ext.push (by rw [hlen]; simpa using W) ⟨⟨_, Heap.get?_push_size _ rfl, rfl, rfl⟩, hl.push _⟩ (fresh_none _)
    (fun i h st => by obtain ⟨⟨o, ho, _, hd⟩, _⟩ := st; exact ⟨o, _, ho, hd⟩) (fun b hb => ?_) (fun i v hi hv => ?_)
  · simp at hb
    rcases hb with rfl | rfl
    · exact .inl rfl
    · obtain ⟨o, ho, _, n, hd⟩ := hl
      exact .inr ⟨ha, o, ho, _, n, hd⟩
  · obtain ⟨d, hd⟩ : ∃ d, xs[i]? = some d := ⟨_, List.getElem?_eq_getElem hi⟩
    obtain ⟨v', hv', r'⟩ := hvs.get hd
    simp only [List.getElem?_toArray] at hv
    rw [hv] at hv'; cases hv'
    exact ⟨d, hd, r'⟩

noncomputable def intsFrom (a : Int) (n : Nat) : List D := (List.range n).map fun (i : Nat) => D.int (a + (i : Int))
theorem intsFrom_get {a : Int} {n i : Nat} (h : i < n) : (intsFrom a n)[i]? = some (.int (a + i)) := by simp [intsFrom, h]
theorem intsFrom_len {a : Int} {n : Nat} : (intsFrom a n).length = n := by simp [intsFrom]

theorem range_src {A : Around} {s s₁ : Shared} {Q : Value → Shared → Prop} {E : Value → Shared → Prop} {a b : Int} {t u v : Tok} {r : Addr} (hA : AOK C.n A) (hsm : -1000000 ≤ a ∧ a ≤ 1000000 ∧ -1000000 ≤ b ∧ b ≤ 1000000)
    (x₁ : Ext C.q s s₁) (hr : IsRange s₁.heap r a b 1 t u v)
    (hQ : (∀ (I : Addr) (s₁ s₂ : Shared) (fp : List Addr) (Pv : Nat → Value → Prop) (St : Nat → Heap → Prop), Ext C.q s s₁ → Ext C.q s₁ s₂ → Walks C.prog C.w A I fp [I] (intsFrom a (b - a).toNat).length Pv St → St 0 s₂.heap → s₁.heap.get? I = none → (∀ i h, St i h → Fielded h I) →
      (∀ b ∈ fp, b = I ∨ (b ∉ Ws σ ∧ ∃ o, s₁.heap.get? b = some o ∧ ∃ i n, o.data = .seq i n)) → (∀ i v, i < (intsFrom a (b - a).toNat).length → Pv i v → ∃ d, (intsFrom a (b - a).toNat)[i]? = some d ∧ RD s₁.heap (Ws σ) d v) → Q (.ref I) s₂)) :
    wpAny (model C.prog C.w) A (pyIter (.ref r)) Q E s₁ := by
  refine wpAny_pyIter_range hr (small_one (by omega) (by omega) (by omega) (by omega)) ?_
  have hsz : Builtin.Range.rangeSize a b 1 = ((b - a).toNat : Int) := by rw [rangeSize_one]; split <;> omega
  refine hQ s₁.heap.objs.size s₁ _ [s₁.heap.objs.size] _ _ x₁ Ext.push (by rw [intsFrom_len]; exact Walks.range hA.handled s₁.heap.objs.size a 1 (b - a).toNat) ?_ (fresh_none _) (fun i h st => ⟨_, _, st, rfl⟩) (fun b hb => by simp at hb; exact .inl hb) (fun i w hi hv => ?_)
  · have e1 : (a + ((0 : Nat) : Int) * 1) = a := by simp
    have e2 : (((b - a).toNat : Int) - ((0 : Nat) : Int)) = Builtin.Range.rangeSize a b 1 := by rw [hsz]; simp
    show IsRangeIter _ _ (a + ((0 : Nat) : Int) * 1) (((b - a).toNat : Int) - ((0 : Nat) : Int)) 1
    rw [e1, e2]
    exact Heap.get?_push_size _ rfl
  · obtain ⟨t, rfl⟩ := hv
    rw [intsFrom_len] at hi
    exact ⟨_, intsFrom_get hi, by rw [show a + (i : Int) * 1 = a + i by omega]; exact rd_int⟩

theorem si_range1 {p pos : Pos} {e : Expr} {n : Int} (hk : C.Ok) (hx : C.env.kindOf "range" = some .globalImplicit) (hm : nsIn C.K mainGlobals "range" = some none) (he : SEt C σ e (.int n)) (hsm : -1000000 ≤ n ∧ n ≤ 1000000)
    (hst : ∀ env, (starEach [e] env) = [(false, eval e env)] := by intro _; rfl) : SI C σ (.Call (.Name "range" p) [e] [] pos) (intsFrom 0 (n - 0).toNat) := by
  constructor; intro A h₀ s Q E hA hG hR hQ
  refine wpAny_Call_NameR (wp_builtin hk hx (hG.keeps hR.keep) hm (by decide +kernel : bootBuiltins "range" = some (.type "range")) ?_)
  have ht : backTo pos (starEach [e] C.env) = [(false, eval e C.env)] := by rw [hst]; rfl
  rw [ht]
  refine PySem.callWith_type rfl (evalArgs_plain (spliced_cons (he.run A h₀ s _ _ hA hG hR fun v s₁ x₁ r₁ => spliced_nil ?_)))
  obtain ⟨t, rfl⟩ := rt_int r₁
  refine call_range_1 ?_
  exact range_src hA (by omega) (x₁.trans ⟨fun _ _ e => Heap.get?_push_of_some _ e, GX.refl .., rfl, rfl⟩) (IsRange.new ..) hQ
theorem si_range2 {p pos : Pos} {e e' : Expr} {a b : Int} (hk : C.Ok) (hx : C.env.kindOf "range" = some .globalImplicit) (hm : nsIn C.K mainGlobals "range" = some none) (he : SEt C σ e (.int a)) (he' : SEt C σ e' (.int b)) (hsm : -1000000 ≤ a ∧ a ≤ 1000000 ∧ -1000000 ≤ b ∧ b ≤ 1000000)
    (hst : ∀ env, (starEach [e, e'] env) = [(false, eval e env), (false, eval e' env)] := by intro _; rfl) : SI C σ (.Call (.Name "range" p) [e, e'] [] pos) (intsFrom a (b - a).toNat) := by
  constructor; intro A h₀ s Q E hA hG hR hQ
  refine wpAny_Call_NameR (wp_builtin hk hx (hG.keeps hR.keep) hm (by decide +kernel : bootBuiltins "range" = some (.type "range")) ?_)
  have ht : backTo pos (starEach [e, e'] C.env) = [(false, eval e C.env), (false, eval e' C.env)] := by rw [hst]; rfl
  rw [ht]
  refine PySem.callWith_type rfl (evalArgs_plain (spliced_cons (he.run A h₀ s _ _ hA hG hR fun v s₁ x₁ r₁ => spliced_cons (he'.run A h₀ s₁ _ _ hA hG (hR.ext x₁.keep) fun v' s₂ x₂ r₂ => spliced_nil ?_))))
  obtain ⟨t, rfl⟩ := rt_int r₁
  obtain ⟨t', rfl⟩ := rt_int r₂
  refine call_range_2 ?_
  exact range_src hA hsm ((x₁.trans x₂).trans ⟨fun _ _ e => Heap.get?_push_of_some _ e, GX.refl .., rfl, rfl⟩) (IsRange.new ..) hQ

noncomputable def signs (x : PySem.Str) : List D := x.cps.toList.map fun c => D.str ⟨#[c]⟩
theorem si_str {e : Expr} {x : PySem.Str} (he : SEt C σ e (.str x)) : SI C σ e (signs x) := by
  constructor; intro A h₀ s Q E hA hG hR hQ
  refine he.run A h₀ s _ _ hA hG hR fun v s₁ x₁ r₁ => ?_
  obtain ⟨t, rfl⟩ := rt_str r₁
  have hl : (signs x).length = x.cps.size := by simp [signs]
  have fin : ∀ i v, i < (signs x).length → SignAt x i v → ∃ d, (signs x)[i]? = some d ∧ RD s₁.heap (Ws σ) d v := fun i v hi hv => by
    obtain ⟨c, u, hc, rfl⟩ := hv
    exact ⟨.str ⟨#[c]⟩, by simp only [signs, List.getElem?_map, Array.getElem?_toList, hc]; rfl, rd_str⟩
  cases ha : x.cps.all (· < 128) with
  | true =>
    refine wpAny_pyIter_ascii ha ?_
    exact hQ s₁.heap.objs.size s₁ _ [s₁.heap.objs.size] (SignAt x) (fun i h => h.IsStrIter s₁.heap.objs.size "str_ascii_iterator" x t i) x₁ Ext.push (by rw [hl]; exact Walks.strAscii hA.handled _ x t) ⟨_, Heap.get?_push_size _ rfl, rfl, rfl⟩ (fresh_none _)
      (fun i h st => by obtain ⟨o, ho, _, hd⟩ := st; exact ⟨o, _, ho, hd⟩) (fun b hb => by simp at hb; exact .inl hb) fin
  | false =>
    refine wpAny_pyIter_wide ha ?_
    exact hQ s₁.heap.objs.size s₁ _ [s₁.heap.objs.size] (SignAt x) (fun i h => h.IsStrIter s₁.heap.objs.size "str_iterator" x t i) x₁ Ext.push (by rw [hl]; exact Walks.strWide hA.handled _ x t) ⟨_, Heap.get?_push_size _ rfl, rfl, rfl⟩ (fresh_none _)
      (fun i h st => by obtain ⟨o, ho, _, hd⟩ := st; exact ⟨o, _, ho, hd⟩) (fun b hb => by simp at hb; exact .inl hb) fin

theorem s1_while {t : Expr} {body : List Stmt} {pos : Pos} {P : Out → Prop} (Inv : Nat → List LV → Prop) (n : Nat) (h0 : Inv n σ)
    (step : ∀ n σ, Inv n σ → ∃ b, ST C σ t b ∧ (b = true → SS C σ body fun o => match o with | .next σ' => ∃ m, m < n ∧ Inv m σ' | .cont σ' => ∃ m, m < n ∧ Inv m σ' | .brk σ' => P (.next σ') | .ret d => P (.ret d)) ∧ (b = false → P (.next σ))) : S1 C σ (.While t body [] pos) P := by
  constructor; intro A h₀ s Q E hA hG hR hQ
  refine wpAny_While (codeAny_whileLoop (fun n s' => ∃ σ', Inv n σ' ∧ Rel C.env C.vars h₀ σ' s'.heap ∧ Mv C.q s s') ?_ n ⟨σ, h0, hR, Mv.refl ..⟩)
  rintro n s' ⟨σ', hinv, R', mv⟩
  obtain ⟨b, hb, h1, h2⟩ := step n σ' hinv
  refine hb.run A h₀ s' _ _ hA hG R' fun s₁ x₁ => ?_
  have R₁ := R'.ext x₁.keep
  cases b with
  | true =>
    simp only [if_true]
    refine (h1 rfl).run A h₀ s₁ _ _ hA hG R₁ fun f s₂ x₂ e₂ => ?_
    have mv₂ := (mv.trans x₁.mv).trans x₂
    cases f with
    | next => obtain ⟨σ₅, ⟨m, hm, h5⟩, R₅⟩ := e₂; exact ⟨m, hm, σ₅, h5, R₅, mv₂⟩
    | cont => obtain ⟨σ₅, ⟨m, hm, h5⟩, R₅⟩ := e₂; exact ⟨m, hm, σ₅, h5, R₅, mv₂⟩
    | brk => obtain ⟨σ₅, h5, R₅⟩ := e₂; exact hQ _ _ mv₂ ⟨σ₅, h5, R₅⟩
    | ret v => obtain ⟨d₅, h5, r₅, kp₅⟩ := e₂; exact hQ _ _ mv₂ ⟨d₅, h5, r₅, kp₅⟩
  | false =>
    simp only [Bool.false_eq_true, if_false]
    exact wpAny_execs_nil (hQ _ _ (mv.trans x₁.mv) ⟨σ', h2 rfl, R₁⟩)
end
end Mine
end

section
namespace Mine
open PySem.Calls PySem.Builtin PySem.Builtin.Str

noncomputable def D.flat : D → Bool
  | .list _ => false
  | .thing _ => false
  | _ => true
noncomputable def toD : Value → D
  | .int i _ => .int i
  | .str s _ => .str s
  | .bool b => .bool b
  | _ => .none
noncomputable def flatV : Value → Bool
  | .int _ _ => true
  | .str _ _ => true
  | .bool _ => true
  | .none => true
  | _ => false
theorem rd_flat {h : Heap} {W : List Addr} {d : D} {v : Value} (hf : d.flat = true) (r : RD h W d v) : flatV v = true ∧ toD v = d := by
  cases d with
  | none => unfold RD at r; subst r; exact ⟨rfl, rfl⟩
  | bool b => unfold RD at r; subst r; exact ⟨rfl, rfl⟩
  | int b => unfold RD at r; obtain ⟨t, rfl⟩ := r; exact ⟨rfl, rfl⟩
  | str b => unfold RD at r; obtain ⟨t, rfl⟩ := r; exact ⟨rfl, rfl⟩
  | list xs => cases hf
  | thing u => cases hf
theorem flat_rd {h : Heap} {W : List Addr} {v : Value} (hf : flatV v = true) : RD h W (toD v) v := by
  cases v <;> first | (exact absurd hf Bool.false_ne_true) | (unfold toD RD; first | exact ⟨_, rfl⟩ | rfl)

section
variable {C : Cx} {σ : List LV}

structure CompOk (C : Cx) (σ : List LV) (scope : Scope) (cl : List (PySem.Str × Addr)) (x : PySem.Str) (caps : List PySem.Str) (cvals : List LV) : Prop where
  clos : closureFor scope C.env = pure cl
  cell : ∀ y ∈ scope.names, y.2 ≠ .cell
  kind : scope.kind = .function
  names : ∀ y ∈ scope.names, y.2 = .local → scope.names.lookup y.1 = some .local
  tgt : scope.names.lookup x = some .local
  /-- the captured names -/
  sub : ∀ y ∈ cl, C.env.cells.lookup y.1 = some y.2
  ks : ∀ y ∈ (relabel scope C.env).names, y.2 = .cell → (cl.lookup y.1).isSome = true
  ccell : ∀ y ∈ caps, (relabel scope C.env).names.lookup y = some .cell ∧ C.env.kindOf y = some .cell ∧ (cl.lookup y).isSome = true
  cv : ∀ (j : Nat) (y : PySem.Str) (lv : LV), caps[j]? = some y → cvals[j]? = some lv → ∃ (i : Nat) (d : D), C.vars[i]? = some y ∧ σ[i]? = some (LV.val d) ∧ lv = LV.val d
  len : cvals.length = caps.length

noncomputable def Cx.comp (C : Cx) (scope : Scope) (cl : List (PySem.Str × Addr)) (L : Addr) (x : PySem.Str) (caps : List PySem.Str) : Cx :=
  { C with q := true, env := compEnvC scope cl L C.env, vars := x :: caps }

theorem lookup_of_mem_isSome {cl : List (PySem.Str × Addr)} {y : PySem.Str} (h : (cl.lookup y).isSome = true) : ∃ c, cl.lookup y = some c ∧ (y, c) ∈ cl := by
  obtain ⟨c, hc⟩ := Option.isSome_iff_exists.mp h
  exact ⟨c, hc, mem_of_lookup hc⟩

theorem comp_rel {scope : Scope} {cl : List (PySem.Str × Addr)} {x : PySem.Str} {caps : List PySem.Str} {cvals : List LV} {h₀ h₁ h₃ : Heap} {L : Addr} {m₃ : PySem.Str → Option Value} {d : D} {v : Value}
    (O : CompOk C σ scope cl x caps cvals) (R : Rel C.env C.vars h₀ σ h₁) (hk : ∀ b o, h₁.get? b = some o → h₃.get? b = some o) (hL : h₁.get? L = none) (hn : h₃.Ns L m₃) (hm : m₃ x = some v) (hd : d.flat = true) (hv : RD h₁ [] d v) :
    Rel (C.comp scope cl L x caps).env (C.comp scope cl L x caps).vars h₁ (.val d :: cvals) h₃ := by
  have hW : Ws cvals = [] := by
    apply List.eq_nil_iff_forall_not_mem.mpr
    intro a ha
    obtain ⟨j, xs, hj⟩ := mem_Ws_inv ha
    have hlt : j < caps.length := by
      rw [← O.len]; rcases List.getElem?_eq_some_iff.mp hj with ⟨h1, _⟩; exact h1
    obtain ⟨i, d', _, _, e⟩ := O.cv j _ _ (List.getElem?_eq_getElem hlt) hj
    cases e
  have hW' : Ws (.val d :: cvals) = [] := by rw [Ws_cons, hW]; rfl
  refine ⟨hk, ⟨m₃, hn⟩, hL, fun y hy => ?_, fun hf => absurd rfl hf, fun y z c hy hz => ?_, fun i y lv hi hlv => ?_, fun a ha => ?_, ?_, ?_⟩
  · have hy' : (relabel scope C.env).names.lookup y = some .cell := hy
    obtain ⟨c, hc, hmem⟩ := lookup_of_mem_isSome (O.ks _ (mem_of_lookup hy') rfl)
    have hmem' := O.sub _ hmem
    have hky : ∃ v, h₁.IsCell c v := by
      by_cases hcap : C.env.kindOf y = some .cell
      · obtain ⟨c', v', h1, h2⟩ := R.cells y hcap
        rw [hmem'] at h1; cases h1; exact ⟨v', h2⟩
      · exfalso
        -- a name relabelled to a cell is a cell outside
        have := mem_of_lookup hy'
        unfold relabel at this
        simp only [List.mem_map] at this
        obtain ⟨⟨n, k⟩, hmemn, e⟩ := this
        by_cases hc' : (k == NameKind.free && C.env.scope.kind == .function && C.env.kindOf n == some .cell) = true
        · rw [if_pos hc'] at e
          simp only [Bool.and_eq_true, beq_iff_eq] at hc'
          cases e
          exact hcap hc'.2
        · rw [if_neg hc'] at e
          cases e
          exact O.cell _ hmemn rfl
    obtain ⟨v', hv'⟩ := hky
    exact ⟨c, v', hc, hv'.keeps hk⟩
  · exact R.apart y z c (O.sub _ (mem_of_lookup hy)) (O.sub _ (mem_of_lookup hz))
  · cases i with
    | zero =>
      have e1 : x = y := by simpa [Cx.comp] using hi
      have e2 : LV.val d = lv := by simpa using hlv
      subst e1 e2
      refine ⟨v, .inl ⟨lookup_relabel_local O.tgt, m₃, hn, hm⟩, hv.base hk fun a ha => ?_⟩
      rw [hW'] at ha; cases ha
    | succ j =>
      have e1 : caps[j]? = some y := by simpa [Cx.comp] using hi
      have e2 : cvals[j]? = some lv := by simpa using hlv
      obtain ⟨i, d', h1, h2, rfl⟩ := O.cv j y lv e1 e2
      obtain ⟨k1, k2, k3⟩ := O.ccell y (List.mem_of_getElem? e1)
      obtain ⟨u, l, r⟩ := R.vals i y _ h1 h2
      obtain ⟨c, hc, hmem⟩ := lookup_of_mem_isSome k3
      have hcell : h₁.IsCell c (some u) := by
        rcases l with ⟨k, _⟩ | ⟨_, c', hc', hv'⟩
        · rw [k2] at k; cases k
        · rw [O.sub _ hmem] at hc'; cases hc'; exact hv'
      exact ⟨u, .inr ⟨.inl k1, c, hc, hcell.keeps hk⟩, r.loose.base hk fun a ha => by rw [hW'] at ha; cases ha⟩
  · rw [hW'] at ha; cases ha
  · rw [hW']; exact List.nodup_nil
  · simp [Cx.comp, O.len]

theorem paired_rds {h : Heap} {W : List Addr} {g : Value → D} {us ys : List Value} (hp : Paired (fun v y => flatV y = true ∧ toD y = g v) us ys) : RDs h W (us.map g) ys := by
  induction hp with
  | nil => exact RDs.nil
  | cons h1 _ ih => exact RDs.cons (h1.2 ▸ flat_rd h1.1) ih
theorem map_toD {vs : List Value} {ds : List D} (hl : vs.length = ds.length) (h : ∀ (j : Nat) v, vs[j]? = some v → ds[j]? = some (toD v)) : vs.map toD = ds := by
  apply List.ext_getElem?
  intro j
  rw [List.getElem?_map]
  cases e : vs[j]? with
  | none =>
    have : ds.length ≤ j := by rw [← hl]; exact List.getElem?_eq_none_iff.mp e
    simp [List.getElem?_eq_none this]
  | some v => simp [h j v e]
theorem comp_list {vs ys : List Value} {ds : List D} {h : Heap} {W : List Addr} {pd : D → Bool} {f : D → D} (hm : vs.map toD = ds) (hp : Paired (fun v y => flatV y = true ∧ toD y = f (toD v)) (vs.filter fun v => pd (toD v)) ys) : RDs h W ((ds.filter pd).map f) ys := by
  have := paired_rds (h := h) (W := W) hp
  rw [← hm, List.filter_map, List.map_map]
  exact this

theorem Walks.lt {prog : Program} {w : World} {A : Around} {I : Addr} {fp wr : List Addr} {n : Nat} {P : Nat → Value → Prop} {St : Nat → Heap → Prop} (W : Walks prog w A I fp wr n P St) : Walks prog w A I fp wr n (fun i v => i < n ∧ P i v) St :=
  ⟨W.sub, W.frame, fun i s Q E hi st hQ => W.item i s Q E hi st fun v h' tk hp => hQ v h' tk ⟨hi, hp⟩, W.done, W.self⟩

/-- the tests of a comprehension -/
noncomputable def CTest (C : Cx) (σ : List LV) (ifs : List Expr) (b : Bool) : Prop := match ifs with
  | [] => b = true
  | [c] => ST C σ c b
  | _ => False

theorem comp_quiet {elt : Expr} {x : PySem.Str} {ifs : List Expr} {scope : Scope} {cl : List (PySem.Str × Addr)} {caps : List PySem.Str} {cvals : List LV} {ds : List D} {pd : D → Bool} {f : D → D} {A : Around} {h₀ : Heap} {s₁ s₂ : Shared} {I : Addr} {Pv : Nat → Value → Prop}
    (O : CompOk C σ scope cl x caps cvals) (hfl : ∀ d ∈ ds, d.flat = true)
    (htest : ∀ L, ∀ d ∈ ds, CTest (C.comp scope cl L x caps) (.val d :: cvals) ifs (pd d))
    (helt : ∀ L, ∀ d ∈ ds, pd d = true → SE (C.comp scope cl L x caps) (.val d :: cvals) elt (f d)) (hff : ∀ d ∈ ds, pd d = true → (f d).flat = true)
    (hA : AOK C.n A) (hG : GC C.K C.mg C.mb h₀) (R₁ : Rel C.env C.vars h₀ σ s₁.heap) (x₂ : Ext C.q s₁ s₂) (hI : s₁.heap.get? I = none)
    (hpv : ∀ i v, i < ds.length → Pv i v → ∃ d, ds[i]? = some d ∧ RD s₁.heap (Ws σ) d v) :
    QuietOnC C.prog C.w A C.env scope cl x ifs elt [I] (fun i v => i < ds.length ∧ Pv i v) (fun v => pd (toD v)) (fun v y => flatV y = true ∧ toD y = f (toD v)) s₂ := by
  have rel : ∀ {L : Addr} {i : Nat} {v : Value} {s₃ : Shared} {m₃ : PySem.Str → Option Value}, s₂.heap.objs.size ≤ L → i < ds.length ∧ Pv i v → s₃.heap.Ns L m₃ → m₃ x = some v → (∀ b o, b ∉ [I] → s₂.heap.get? b = some o → s₃.heap.get? b = some o) →
      toD v ∈ ds ∧ Rel (C.comp scope cl L x caps).env (C.comp scope cl L x caps).vars s₁.heap (.val (toD v) :: cvals) s₃.heap := fun {L i v s₃ m₃} hLge hP hn hm hk => by
    obtain ⟨d, hd, r⟩ := hpv i v hP.1 hP.2
    have hmem : d ∈ ds := List.mem_of_getElem? hd
    obtain ⟨_, rfl⟩ := rd_flat (hfl d hmem) r
    refine ⟨hmem, comp_rel O R₁ (fun b o e => hk b o (fun hb => by simp at hb; subst hb; rw [hI] at e; cases e) (x₂.keep b o e)) ?_ hn hm (hfl _ hmem) r.loose⟩
    cases e : s₁.heap.get? L with
    | none => rfl
    | some o => exact absurd (Heap.lt_size (x₂.keep L o e)) (Nat.not_lt.mpr hLge)
  refine ⟨fun L i v s₃ m₃ E' hLge hP hn hm hk htk => ?_, fun L i v s₃ m₃ E' hLge hP hpv' hn hm hk htk => ?_⟩
  · obtain ⟨hmem, R₃⟩ := rel hLge hP hn hm hk
    have ht := htest L _ hmem
    match ifs, ht with
    | [], ht =>
      have e : pd (toD v) = true := ht
      exact wpAny_pure ⟨e.symm, ⟨_, _, rfl, fun _ _ e => e⟩⟩
    | [c], ht =>
      show wpAny _ _ (forIn [c] true _) _ _ _
      rw [List.forIn_cons]
      simp only [if_true]
      refine wpAny_bind (wpAny_bind ((show ST _ _ c _ from ht).run A _ s₃ _ E' hA (hG.keeps R₁.keep) R₃ fun s₄ x₄ => wpAny_pure ?_))
      exact wpAny_pure ⟨rfl, x₄.keeps⟩
  · obtain ⟨hmem, R₃⟩ := rel hLge hP hn hm hk
    refine (helt L _ hmem hpv').run A _ s₃ _ E' hA (hG.keeps R₁.keep) R₃ fun y s₄ x₄ r₄ => ⟨?_, x₄.keeps⟩
    exact rd_flat (hff _ hmem hpv') r₄

theorem comp_items {ds : List D} {vs : List Value} {σ : List LV} {h : Heap} {Pv : Nat → Value → Prop} (hfl : ∀ d ∈ ds, d.flat = true) (hlen : vs.length = ds.length) (hP : ∀ (j : Nat) v, vs[j]? = some v → j < ds.length ∧ Pv j v) (hpv : ∀ i v, i < ds.length → Pv i v → ∃ d, ds[i]? = some d ∧ RD h (Ws σ) d v) : vs.map toD = ds :=
  map_toD hlen fun j v hj => by
    obtain ⟨h1, h2⟩ := hP j v hj
    obtain ⟨d, hd, r⟩ := hpv j v h1 h2
    obtain ⟨_, rfl⟩ := rd_flat (hfl d (List.mem_of_getElem? hd)) r
    exact hd

theorem se_comp {elt iter : Expr} {x : PySem.Str} {px pos : Pos} {ifs : List Expr} {scope : Scope} {cl : List (PySem.Str × Addr)} {caps : List PySem.Str} {cvals : List LV} {ds : List D} (pd : D → Bool) (f : D → D)
    (O : CompOk C σ scope cl x caps cvals) (he : SI C σ iter ds) (hfl : ∀ d ∈ ds, d.flat = true)
    (htest : ∀ L, ∀ d ∈ ds, CTest (C.comp scope cl L x caps) (.val d :: cvals) ifs (pd d))
    (helt : ∀ L, ∀ d ∈ ds, pd d = true → SE (C.comp scope cl L x caps) (.val d :: cvals) elt (f d)) (hff : ∀ d ∈ ds, pd d = true → (f d).flat = true) (hsz : ds.length ≤ 1000000)
    (hs : ∀ x, foldedSetIterable iter C.env x = pure x := by intro _; rfl) : SE C σ (.ListComp elt [⟨.Name x px, iter, ifs, 0⟩] scope pos) (.list ((ds.filter pd).map f)) := by
  constructor; intro A h₀ s Q E hA hG hR hQ
  refine wpAny_ListComp_free (fun v => pd (toD v)) (fun v y => flatV y = true ∧ toD y = f (toD v)) O.clos O.cell O.kind O.names O.tgt (he.run A h₀ s _ _ hA hG hR fun I s₁ s₂ fp Pv St x₁ x₂ W st0 hI hfd hfp hpv => ?_) hs
  have R₁ := hR.ext x₁.keep
  refine ⟨I, fp, [I], ds.length, _, St, rfl, Walks.lt W, Nat.le_trans hsz (by decide), st0, fun b hb => ?_, comp_quiet O hfl htest helt hff hA hG R₁ x₂ hI hpv, fun L h' tk ys vs hL hl hpl hlen hP hF hk => ?_⟩
  · rcases hfp b hb with rfl | ⟨_, o, ho, _⟩
    · obtain ⟨o, vs, ho, _⟩ := hfd _ _ st0; exact Heap.lt_size ho
    · exact Heap.lt_size (x₂.keep b o ho)
  · have kp : ∀ b o, s₁.heap.get? b = some o → h'.get? b = some o := fun b o e => hk b o (fun hb => by simp at hb; subst hb; rw [hI] at e; cases e) (x₂.keep b o e)
    refine hQ _ _ (x₁.trans ⟨kp, x₂.gens, x₂.os, x₂.drawn⟩) (rd_list ?_ (vs := ys.toList) (by simpa using hl) (comp_list (comp_items hfl hlen hP hpv) hF))
    intro hm
    obtain ⟨o, ho⟩ := R₁.ownThere _ hm
    rw [x₂.keep _ _ ho] at hL; cases hL

/-- a local is bound, seen from outside -/
theorem Rel.setLocal {env : Env} {vars : List PySem.Str} {h₀ h h' : Heap} {x : PySem.Str} {i : Nat} {v : Value} {d : D} {m : PySem.Str → Option Value} (R : Rel env vars h₀ σ h) (hi : vars[i]? = some x) (hnd : vars.Nodup) (hx : env.kindOf x = some .local)
    (hn : h.Ns env.locals m) (hn' : h'.Ns env.locals (fun z => if z = x then some v else m z)) (hk : ∀ b o, b ≠ env.locals → h.get? b = some o → h'.get? b = some o) (hv : RD h' (Ws (σ.set i (.val d))) d v) : Rel env vars h₀ (σ.set i (.val d)) h' := by
  have hsub := Ws_set_sub (lv := .val d) rfl σ i
  have hL : ∀ a (o : Obj), (∃ i n, o.data = .seq i n) → h.get? a = some o → h'.get? a = some o := fun a o ⟨i, n, hd⟩ e => hk a o (fun he => by
    obtain ⟨o', es, ep, ho', hd', _⟩ := id hn
    rw [he, ho'] at e; cases e; rw [hd'] at hd; cases hd) e
  refine ⟨fun b o e => hk b o (fun he => by rw [he, R.newL] at e; cases e) (R.keep b o e), ⟨_, hn'⟩, R.newL, fun y hy => ?_, R.cellsNew, R.apart, fun j y lv hy hlv => ?_, fun a ha => R.ownNew a (hsub.subset ha), R.nd.sublist hsub, by rw [List.length_set]; exact R.len⟩
  · obtain ⟨c, v', h1, o, ho, hd⟩ := R.cells y hy
    exact ⟨c, v', h1, o, hk c o (fun he => by
      obtain ⟨o', es, ep, ho', hd', _⟩ := id hn
      rw [he, ho'] at ho; cases ho; rw [hd'] at hd; cases hd) ho, hd⟩
  · by_cases hj : j = i
    · subst hj
      rw [hi] at hy; cases hy
      have hlt : j < σ.length := by
        rcases List.getElem?_eq_some_iff.mp hlv with ⟨h1, _⟩; simpa using h1
      rw [List.getElem?_set_self hlt] at hlv
      cases hlv
      exact ⟨v, .inl ⟨hx, _, hn', by simp⟩, hv⟩
    · rw [List.getElem?_set_ne (Ne.symm hj)] at hlv
      have hyx : y ≠ x := by
        intro e
        subst e
        obtain ⟨h1, e1⟩ := List.getElem?_eq_some_iff.mp hi
        obtain ⟨h2, e2⟩ := List.getElem?_eq_some_iff.mp hy
        exact hj ((List.getElem_inj hnd).mp (e2.trans e1.symm))
      refine ((R.vals j y lv hy hlv).sub fun a ha => hsub.subset ha).rebuild (fun u l => ?_) hL
      rcases l with ⟨k, m₁, hn₁, hu⟩ | ⟨k, c, hc, o, ho, hd⟩
      · refine .inl ⟨k, _, hn', ?_⟩
        have := ns_fun_eq hn hn₁
        subst this
        show (if y = x then _ else m y) = _
        rw [if_neg hyx]; exact hu
      · exact .inr ⟨k, c, hc, o, hk c o (fun he => by
          obtain ⟨o', es, ep, ho', hd', _⟩ := id hn
          rw [he, ho'] at ho; cases ho; rw [hd'] at hd; cases hd) ho, hd⟩

theorem s1_comp {elt iter : Expr} {x y : PySem.Str} {px py pos spos : Pos} {ifs : List Expr} {scope : Scope} {cl : List (PySem.Str × Addr)} {caps : List PySem.Str} {cvals : List LV} {ds : List D} {P : Out → Prop} (i : Nat) (pd : D → Bool) (f : D → D) (hF : C.Fn) (hi : C.vars[i]? = some y) (hy : C.env.kindOf y = some .local)
    (O : CompOk C σ scope cl x caps cvals) (he : SI C σ iter ds) (hfl : ∀ d ∈ ds, d.flat = true)
    (htest : ∀ L, ∀ d ∈ ds, CTest (C.comp scope cl L x caps) (.val d :: cvals) ifs (pd d))
    (helt : ∀ L, ∀ d ∈ ds, pd d = true → SE (C.comp scope cl L x caps) (.val d :: cvals) elt (f d)) (hff : ∀ d ∈ ds, pd d = true → (f d).flat = true) (hsz : ds.length ≤ 1000000)
    (hP : P (.next (σ.set i (.val (.list ((ds.filter pd).map f))))))
    (hsw : swapsWith (.ListComp elt [⟨.Name x px, iter, ifs, 0⟩] scope pos) (some (.Name y py)) spos.line C.env = pure true := by rfl)
    (hs : ∀ x, foldedSetIterable iter C.env x = pure x := by intro _; rfl) : S1 C σ (.Assign [.Name y py] (.ListComp elt [⟨.Name x px, iter, ifs, 0⟩] scope pos) spos) P := by
  constructor; intro A h₀ s Q E hA hG hR hQ
  refine wpAny_Assign_ListComp_free (fun v => pd (toD v)) (fun v y => flatV y = true ∧ toD y = f (toD v)) hsw O.clos O.cell O.kind O.names O.tgt hy (by rw [hF.kind]; rfl) (he.run A h₀ s _ _ hA hG hR fun I s₁ s₂ fp Pv St x₁ x₂ W st0 hI hfd hfp hpv => ?_) hs
  have R₁ := hR.ext x₁.keep
  have R₂ := R₁.ext x₂.keep
  obtain ⟨m, hn⟩ := R₂.ns
  have hLI : C.env.locals ≠ I := by
    rintro e
    obtain ⟨m₁, o, es, ep, ho, _⟩ := R₁.ns
    rw [e, hI] at ho; cases ho
  refine ⟨I, fp, [I], ds.length, _, St, m, rfl, Walks.lt W, Nat.le_trans hsz (by decide), st0, fun b hb => ?_, by simpa using hLI, hn, comp_quiet O hfl htest helt hff hA hG R₁ x₂ hI hpv, fun L h' tk ys vs hL hl hpl hlen hP' hF' hn' hk => ?_⟩
  · rcases hfp b hb with rfl | ⟨_, o, ho, _⟩
    · obtain ⟨o, vs, ho, _⟩ := hfd _ _ st0; exact Heap.lt_size ho
    · exact Heap.lt_size (x₂.keep b o ho)
  · obtain ⟨m₁, hn₁⟩ := R₁.ns
    have e := ns_fun_eq hn (hn₁.keeps x₂.keep)
    subst e
    have hLW : L ∉ Ws (σ.set i (.val (.list ((ds.filter pd).map f)))) := fun hm => by
      have hsub := Ws_set_sub (lv := .val (.list ((ds.filter pd).map f))) rfl σ i
      obtain ⟨o, ho⟩ := R₂.ownThere _ (hsub.subset hm)
      rw [ho] at hL; cases hL
    refine hQ _ _ (x₁.mv.trans (x₂.mv.trans Mv.heap)) ⟨_, hP, ?_⟩
    exact R₁.setLocal hi hF.nd hy hn₁ hn' (fun b o hb e => hk b o hb (fun hb => by simp at hb; subst hb; rw [hI] at e; cases e) (x₂.keep b o e)) (rd_list hLW (vs := ys.toList) (by simpa using hl) (comp_list (comp_items hfl hlen hP' hpv) hF'))
end
end Mine
end

section
namespace Mine
open PySem.Calls PySem.Builtin PySem.Builtin.Str

theorem len1 {α : Type} {P : List α → Prop} (h : ∀ a, P [a]) (vals : List α) (hl : vals.length = 1) : P vals := by
  cases vals with
  | nil => cases hl
  | cons a r => rw [List.length_eq_zero_iff.mp (Nat.succ.inj hl)]; exact h a
theorem len2 {α : Type} {P : List α → Prop} (h : ∀ a b, P [a, b]) (vals : List α) (hl : vals.length = 2) : P vals := by
  cases vals with
  | nil => cases hl
  | cons a r => exact len1 (P := fun r => P (a :: r)) (h a) r (Nat.succ.inj hl)
theorem len3 {α : Type} {P : List α → Prop} (h : ∀ a b c, P [a, b, c]) (vals : List α) (hl : vals.length = 3) : P vals := by
  cases vals with
  | nil => cases hl
  | cons a r => exact len2 (P := fun r => P (a :: r)) (h a) r (Nat.succ.inj hl)
theorem len4 {α : Type} {P : List α → Prop} (h : ∀ a b c d, P [a, b, c, d]) (vals : List α) (hl : vals.length = 4) : P vals := by
  cases vals with
  | nil => cases hl
  | cons a r => exact len3 (P := fun r => P (a :: r)) (h a) r (Nat.succ.inj hl)
theorem len5 {α : Type} {P : List α → Prop} (h : ∀ a b c d e, P [a, b, c, d, e]) (vals : List α) (hl : vals.length = 5) : P vals := by
  cases vals with
  | nil => cases hl
  | cons a r => exact len4 (P := fun r => P (a :: r)) (h a) r (Nat.succ.inj hl)
theorem tn_lt {a : Int} {n : Nat} (h0 : 0 ≤ a) (h : a < n) : a.toNat < n := (Int.toNat_lt h0).mpr h
/-- what holds of 0 to 4 -/
theorem five {P : Nat → Prop} (h0 : P 0) (h1 : P 1) (h2 : P 2) (h3 : P 3) (h4 : P 4) (i : Nat) (h : i < 5) : P i := by
  cases i with
  | zero => exact h0
  | succ i => cases i with
    | zero => exact h1
    | succ i => cases i with
      | zero => exact h2
      | succ i => cases i with
        | zero => exact h3
        | succ i => cases i with
          | zero => exact h4
          | succ i => exact absurd h (Nat.not_lt_of_le (Nat.le_add_left 5 i))

structure Base where
  prog : Program
  w : World
  K : Frag
  mg : PySem.Str → Option Value
  mb : PySem.Str → Option Value
noncomputable def Cx.b (C : Cx) : Base := ⟨C.prog, C.w, C.K, C.mg, C.mb⟩
noncomputable def Base.cx (B : Base) (q : Bool) (n : Nat) (env : Env) (vars : List PySem.Str) : Cx := ⟨B.prog, B.w, B.K, B.mg, B.mb, q, n, env, vars⟩

/-- what a def gives -/
structure FnOk (B : Base) (q : Bool) (n : Nat) (f : Value) (ds : List D) (d : D) : Prop where
  run : ∀ (A : Around) (s : Shared) (Q : Value → Shared → Prop) (E : Value → Shared → Prop) (vals : List Value), AOK n A → GC B.K B.mg B.mb s.heap → RDs s.heap [] ds vals →
    (∀ v s', Ext q s s' → RD s'.heap [] d v → Q v s') → wpAny (model B.prog B.w) A (call f vals) Q E s

theorem AOK.le {n m : Nat} {A : Around} (h : AOK n A) (hm : m ≤ n) : AOK m A := ⟨h.handled, by have := h.depth; omega, by have := h.units; omega⟩
theorem AOK.deeper {n : Nat} {A : Around} {env : Env} (h : AOK (n + 1) A) : AOK n (A.deeper env) := ⟨h.handled, by have := h.depth; show A.depth + 1 + n ≤ 900; omega, by have := h.units; show A.units + 3 + 20 * n ≤ 9000; omega⟩

theorem mem_cellsFrom : ∀ (names : List (PySem.Str × NameKind)) (n : Nat) (acc : List (PySem.Str × Addr)) (x : PySem.Str) (c : Addr), (x, c) ∈ cellsFrom n names acc → (x, c) ∈ acc ∨ (x, NameKind.cell) ∈ names
  | [], _, _, _, _, h => .inl h
  | (name, kind) :: r, n, acc, x, c, h => by
    unfold cellsFrom at h
    split at h
    · rename_i hk
      rcases mem_cellsFrom r _ _ x c h with h1 | h1
      · rcases List.mem_cons.mp h1 with e | h2
        · cases e; rw [beq_iff_eq.mp hk]; exact .inr List.mem_cons_self
        · exact .inl h2
      · exact .inr (List.mem_cons_of_mem _ h1)
    · rcases mem_cellsFrom r _ _ x c h with h1 | h1
      · exact .inl h1
      · exact .inr (List.mem_cons_of_mem _ h1)
theorem lookup_acc_isSome {acc : List (PySem.Str × Addr)} {x y : PySem.Str} {n : Addr} (h : (acc.lookup x).isSome = true) : (((y, n) :: acc).lookup x).isSome = true := by
  rw [List.lookup_cons]; split
  · rfl
  · exact h
theorem cellsFrom_acc : ∀ (names : List (PySem.Str × NameKind)) (n : Nat) (acc : List (PySem.Str × Addr)) (x : PySem.Str), (acc.lookup x).isSome = true → ((cellsFrom n names acc).lookup x).isSome = true
  | [], _, _, _, h => h
  | (name, kind) :: r, n, acc, x, h => by
    unfold cellsFrom
    split
    · exact cellsFrom_acc r _ _ x (lookup_acc_isSome h)
    · exact cellsFrom_acc r _ _ x h
theorem cellsFrom_isSome : ∀ (names : List (PySem.Str × NameKind)) (n : Nat) (acc : List (PySem.Str × Addr)) (x : PySem.Str), (x, NameKind.cell) ∈ names → ((cellsFrom n names acc).lookup x).isSome = true
  | (name, kind) :: r, n, acc, x, h => by
    unfold cellsFrom
    rcases List.mem_cons.mp h with e | h
    · cases e
      rw [if_pos (beq_self_eq_true _)]
      exact cellsFrom_acc r _ _ _ (by simp [List.lookup_cons])
    · split
      · exact cellsFrom_isSome r _ _ x h
      · exact cellsFrom_isSome r _ _ x h
theorem lookup_of_nodup {α : Type} : ∀ {l : List (PySem.Str × α)} {x : PySem.Str} {k : α}, (l.map (·.1)).Nodup → (x, k) ∈ l → l.lookup x = some k := by
  intro l
  induction l with
  | nil => intro x k hn h; cases h
  | cons p r ih =>
    intro x k hn h
    obtain ⟨y, j⟩ := p
    rw [List.map_cons, List.nodup_cons] at hn
    rw [List.lookup_cons]
    rcases List.mem_cons.mp h with e | h'
    · cases e; simp
    · have : x ≠ y := by intro e; subst e; exact hn.1 (List.mem_map_of_mem (f := (·.1)) h')
      have hb : (x == y) = false := by simpa using this
      rw [hb]
      exact ih hn.2 h'

theorem bindL_skip {kindOf : PySem.Str → Option NameKind} : ∀ (binds : List (PySem.Str × Value)) (m : PySem.Str → Option Value) (x : PySem.Str), x ∉ binds.map (·.1) → bindL kindOf binds m x = m x
  | [], _, _, _ => rfl
  | (n, v) :: r, m, x, h => by
    unfold bindL
    rw [List.map_cons, List.mem_cons, not_or] at h
    rw [bindL_skip r _ x h.2]
    split
    · show (if x = n then _ else m x) = _; rw [if_neg h.1]
    · rfl
theorem bindC_skip {kindOf : PySem.Str → Option NameKind} : ∀ (binds : List (PySem.Str × Value)) (m : PySem.Str → Option Value) (x : PySem.Str), x ∉ binds.map (·.1) → bindC kindOf binds m x = m x
  | [], _, _, _ => rfl
  | (n, v) :: r, m, x, h => by
    unfold bindC
    rw [List.map_cons, List.mem_cons, not_or] at h
    rw [bindC_skip r _ x h.2]
    split
    · rfl
    · show (if x = n then _ else m x) = _; rw [if_neg h.1]
theorem bindL_get {kindOf : PySem.Str → Option NameKind} : ∀ (binds : List (PySem.Str × Value)) (m : PySem.Str → Option Value) (x : PySem.Str) (v : Value), (binds.map (·.1)).Nodup → (x, v) ∈ binds → kindOf x = some .local → bindL kindOf binds m x = some v := by
  intro binds
  induction binds with
  | nil => intro m x v hn h; cases h
  | cons p r ih =>
    intro m x v hn h hk
    obtain ⟨n, u⟩ := p
    unfold bindL
    rw [List.map_cons, List.nodup_cons] at hn
    rcases List.mem_cons.mp h with e | h
    · cases e
      rw [bindL_skip r _ _ hn.1, if_pos hk]; simp
    · exact ih _ x v hn.2 h hk
theorem bindC_get {kindOf : PySem.Str → Option NameKind} : ∀ (binds : List (PySem.Str × Value)) (m : PySem.Str → Option Value) (x : PySem.Str) (v : Value), (binds.map (·.1)).Nodup → (x, v) ∈ binds → kindOf x = some .cell → bindC kindOf binds m x = some v := by
  intro binds
  induction binds with
  | nil => intro m x v hn h; cases h
  | cons p r ih =>
    intro m x v hn h hk
    obtain ⟨n, u⟩ := p
    unfold bindC
    rw [List.map_cons, List.nodup_cons] at hn
    rcases List.mem_cons.mp h with e | h
    · cases e
      rw [bindC_skip r _ _ hn.1, if_neg (by rw [hk]; decide)]; simp
    · exact ih _ x v hn.2 h hk

theorem call_body {B : Base} {q : Bool} {n : Nat} {a : Addr} {o : Obj} {fd : FuncData} {body : List Stmt} {params locs : List PySem.Str} {ds : List D}
    (hK : B.K.lookup a = some o) (ho : o.data = .func fd) (hcode : codeIn B.K fd.code fd.qualname = true) (hbody : fd.body = .stmts body) (hclo : fd.closure = [])
    (hbind : ∀ vals : List Value, vals.length = params.length → bindArgs fd ⟨vals, []⟩ = pure (params.zip vals)) (hlen : ds.length = params.length)
    (hkinds : ∀ p ∈ params, fd.scope.names.lookup p = some .local ∨ fd.scope.names.lookup p = some .cell) (hnames : (fd.scope.names.map (·.1)).Nodup)
    (hglob : fd.globals = mainGlobals) (hbui : fd.builtins = builtinsNs) (hnd : (params ++ locs).Nodup) (hdbg : ∀ L, interactive (callEnvC fd L a) = false)
    (hco : fd.scope.isCoroutine = false := by rfl) (hgen : fd.scope.isGenerator = false := by rfl) (hk : fd.scope.kind = .function := by rfl) :
    ∀ (A : Around) (s : Shared) (Q : Value → Shared → Prop) (E : Value → Shared → Prop) (vals : List Value), AOK (n + 1) A → GC B.K B.mg B.mb s.heap → RDs s.heap [] ds vals →
    (∀ L s₁ E', (B.cx q n (callEnvC fd L a) (params ++ locs)).Fn → AOK n (A.deeper (callEnvC fd L a)) → Rel (B.cx q n (callEnvC fd L a) (params ++ locs)).env (B.cx q n (callEnvC fd L a) (params ++ locs)).vars s.heap (ds.map LV.val ++ List.replicate locs.length LV.unset) s₁.heap → Mv q s s₁ →
      wpAny (model B.prog B.w) (A.deeper (callEnvC fd L a)) (execs body (callEnvC fd L a)) (fun f s' => Q (match f with | .ret v => v | _ => .none) s') E' s₁) → wpAny (model B.prog B.w) A (call (.ref a) vals) Q E s := by
  intro A s Q E vals hA hG hr hQ
  have hvl : vals.length = params.length := by rw [← hr.length, hlen]
  have hpn : params.Nodup := (List.nodup_append.mp hnd).1
  have hzm : (params.zip vals).map (·.1) = params := by rw [List.map_fst_zip]; omega
  refine wpAny_call (codeAny_call_cells (by have := hA.depth; simp [recursionLimit]; omega) (hG.k a o hK) ho hG.nolimit (codeRec_of hG.k hcode) hbody (hbind vals hvl) hclo (fun x hx => ?_) (fun s₁ hx => ?_) hco hgen hk)
  · have hm : x.1 ∈ params := by rw [← hzm]; exact List.mem_map_of_mem (f := (·.1)) hx
    rcases hkinds _ hm with h1 | h1
    · exact .inl h1
    · exact .inr ⟨h1, cellsFrom_isSome _ _ _ _ (mem_of_lookup h1)⟩
  · have henv : ∀ L, (B.cx q n (callEnvC fd L a) (params ++ locs)).Fn := fun L => by
      refine ⟨⟨hk, hglob, hbui⟩, (fun e => nomatch e), hnd, fun x c hc => ?_, hdbg L⟩
      rcases mem_cellsFrom _ _ _ x c (mem_of_lookup hc) with h1 | h1
      · cases h1
      · exact lookup_of_nodup hnames h1
    have hW : Ws (ds.map LV.val ++ List.replicate locs.length LV.unset) = [] := by
      apply List.eq_nil_iff_forall_not_mem.mpr
      intro b hb
      obtain ⟨x, hx, hbx⟩ := List.mem_flatMap.mp hb
      rcases List.mem_append.mp hx with h1 | h1
      · obtain ⟨d', _, rfl⟩ := List.mem_map.mp h1; simp [LV.w] at hbx
      · rw [List.mem_replicate] at h1; rw [h1.2] at hbx; simp [LV.w] at hbx
    have R : Rel (B.cx q n (callEnvC fd s.heap.objs.size a) (params ++ locs)).env (B.cx q n (callEnvC fd s.heap.objs.size a) (params ++ locs)).vars s.heap (ds.map LV.val ++ List.replicate locs.length LV.unset) s₁.heap := by
      refine ⟨hx.toInCall.keep, ⟨_, hx.toInCall.ns⟩, fresh_none _, fun y hy => ?_, fun _ y c hc => ?_, fun y z c hy hz => name_of_addr hx.apart (mem_of_lookup hy) (mem_of_lookup hz), fun i y lv hi hlv => ?_, fun b hb => ?_, ?_, ?_⟩
      · obtain ⟨c, hc⟩ := Option.isSome_iff_exists.mp (cellsFrom_isSome fd.scope.names (s.heap.objs.size + 1) [] y (mem_of_lookup hy))
        exact ⟨c, _, hc, hx.cell y c hc⟩
      · have := hx.above y c (mem_of_lookup hc)
        cases e : s.heap.get? c with
        | none => rfl
        | some o => exact absurd (Heap.lt_size e) (Nat.not_lt.mpr (Nat.le_of_lt this))
      · by_cases hlt : i < params.length
        · have hip : params[i]? = some y := by rw [← hi]; exact (List.getElem?_append_left hlt).symm
          have hlt' : i < ds.length := by omega
          obtain ⟨d', hd'⟩ : ∃ d', ds[i]? = some d' := ⟨_, List.getElem?_eq_getElem hlt'⟩
          have hlv' : lv = LV.val d' := by
            rw [List.getElem?_append_left (by simpa using hlt'), List.getElem?_map, hd'] at hlv
            simpa using hlv.symm
          subst hlv'
          obtain ⟨v, hv, r⟩ := hr.get hd'
          have hm : (y, v) ∈ params.zip vals := by
            have : (params.zip vals)[i]? = some (y, v) := by rw [List.getElem?_zip_eq_some]; exact ⟨hip, hv⟩
            exact List.mem_of_getElem? this
          have hnz : ((params.zip vals).map (·.1)).Nodup := by rw [hzm]; exact hpn
          refine ⟨v, ?_, by rw [hW]; exact r.keep hx.toInCall.keep⟩
          rcases hkinds y (List.mem_of_getElem? hip) with h1 | h1
          · exact .inl ⟨h1, _, hx.toInCall.ns, bindL_get _ _ _ _ hnz hm h1⟩
          · obtain ⟨c, hc⟩ := Option.isSome_iff_exists.mp (cellsFrom_isSome fd.scope.names (s.heap.objs.size + 1) [] y (mem_of_lookup h1))
            have := hx.cell y c hc
            rw [bindC_get _ _ _ _ hnz hm h1] at this
            exact .inr ⟨.inl h1, c, hc, this⟩
        · have : lv = LV.unset := by
            rw [List.getElem?_append_right (by simp; omega)] at hlv
            have := List.mem_of_getElem? hlv
            exact (List.mem_replicate.mp this).2
          subst this; trivial
      · rw [hW] at hb; cases hb
      · rw [hW]; exact List.nodup_nil
      · simp [Base.cx, hlen]
    obtain ⟨h', tk, rfl⟩ := hx.toInCall.same
    exact hQ s.heap.objs.size _ _ (henv _) hA.deeper R Mv.heap

theorem fn_of_body {B : Base} {q : Bool} {n : Nat} {a : Addr} {o : Obj} {fd : FuncData} {body : List Stmt} {params locs : List PySem.Str} {ds : List D} {d : D}
    (hK : B.K.lookup a = some o) (ho : o.data = .func fd) (hcode : codeIn B.K fd.code fd.qualname = true) (hbody : fd.body = .stmts body) (hclo : fd.closure = [])
    (hbind : ∀ vals : List Value, vals.length = params.length → bindArgs fd ⟨vals, []⟩ = pure (params.zip vals)) (hlen : ds.length = params.length)
    (hkinds : ∀ p ∈ params, fd.scope.names.lookup p = some .local ∨ fd.scope.names.lookup p = some .cell) (hnames : (fd.scope.names.map (·.1)).Nodup)
    (hglob : fd.globals = mainGlobals) (hbui : fd.builtins = builtinsNs) (hnd : (params ++ locs).Nodup) (hdbg : ∀ L, interactive (callEnvC fd L a) = false)
    (h : ∀ L, (B.cx q n (callEnvC fd L a) (params ++ locs)).Fn → SS (B.cx q n (callEnvC fd L a) (params ++ locs)) (ds.map LV.val ++ List.replicate locs.length LV.unset) body fun o => match o with | .ret d' => d' = d | .next _ => d = .none | _ => False)
    (hco : fd.scope.isCoroutine = false := by rfl) (hgen : fd.scope.isGenerator = false := by rfl) (hk : fd.scope.kind = .function := by rfl) : FnOk B q (n + 1) (.ref a) ds d := by
  constructor; intro A s Q E vals hA hG hr hQ
  refine call_body (q := q) hK ho hcode hbody hclo hbind hlen hkinds hnames hglob hbui hnd hdbg hco hgen hk A s Q E vals hA hG hr fun L s₁ E' hF hA' R mv => ?_
  refine (h L hF).run _ s.heap s₁ _ _ hA' hG R fun f s' x e => ?_
  have mv' := mv.trans x
  have ext : (∀ b o, s.heap.get? b = some o → s'.heap.get? b = some o) → Ext q s s' := fun kp => ⟨kp, mv'.gens, mv'.os, mv'.drawn⟩
  cases f with
  | next => obtain ⟨σ', h1, R'⟩ := e; have h1 : d = .none := h1; subst h1; exact hQ _ _ (ext R'.keep) (by unfold RD; rfl)
  | brk => obtain ⟨σ', h1, R'⟩ := e; exact h1.elim
  | cont => obtain ⟨σ', h1, R'⟩ := e; exact h1.elim
  | ret v => obtain ⟨d', h1, r, kp⟩ := e; have h1 : d' = d := h1; subst h1; exact hQ _ _ (ext kp) r

section
variable {C : Cx} {σ : List LV}
theorem se_callF {x : PySem.Str} {a : Addr} {o : Obj} {fd : FuncData} {p pos : Pos} {e : Expr} {es : List Expr} {ds : List D} {d : D} {q' : Bool} {n' : Nat} (hk : C.Ok) (hx : C.env.kindOf x = some .globalImplicit) (hv : nsIn C.K mainGlobals x = some (some (.ref a)))
    (hK : C.K.lookup a = some o) (ho : o.data = .func fd) (he : SEs C σ pos (e :: es) ds) (hf : FnOk C.b q' n' (.ref a) ds d) (hn : n' ≤ C.n) (hq : q' = true ∨ q' = C.q) (hfl : d.flat = true ∨ Ws σ = [])
    (hst : ∀ env, (starEach (e :: es) env) = (false, eval e env) :: starEach es env := by intro _; rfl)
    (hd : (x == ("__debug__" : PySem.Str)) = false := by decide +kernel) : SE C σ (.Call (.Name x p) (e :: es) [] pos) d := by
  constructor; intro A h₀ s Q E hA hG hR hQ
  refine wpAny_Call_NameR (wp_global hk hx (hG.keeps hR.keep) hv ?_ hd)
  refine callWith_function (o := o) (fd := fd) ?_
  have hst' : backTo pos (starEach (e :: es) C.env) = (false, eval e C.env) :: backTo pos (starEach es C.env) := by rw [hst]; rfl
  rw [hst']
  refine evalArgs_plain ?_
  rw [← hst']
  refine he.run A h₀ s _ _ hA hG hR fun vs s₁ x₁ r₁ => ?_
  have R₁ := hR.ext x₁.keep
  refine ⟨⟨(hG.keeps R₁.keep).k a o hK, ho⟩, ?_⟩
  refine hf.run A s₁ Q E vs (hA.le hn) (hG.keeps R₁.keep) r₁ fun v s₂ x₂ r₂ => hQ v s₂ (x₁.trans ?_) ?_
  · rcases hq with rfl | rfl
    · exact x₂.weak
    · exact x₂
  · rcases hfl with h | h
    · obtain ⟨h1, h2⟩ := rd_flat h r₂; rw [← h2]; exact flat_rd h1
    · rw [h]; exact r₂
end
end Mine
end

section
namespace Mine
open PySem.Calls PySem.Builtin PySem.Builtin.Str PySem.SeqAt

section
variable {C : Cx} {σ : List LV}
theorem cmp_ne_nil {xs : List Int} : Cmp2 C .NotEq (.list (xs.map .int)) (.list []) (!xs.isEmpty) := by
  constructor; intro A s W u v Q E hA r₁ r₂ hQ
  obtain ⟨a, vs, rfl, hl, hvs⟩ := rt_list r₁
  obtain ⟨b, us, rfl, hl', hus⟩ := rt_list r₂
  have e := hus.inv_nil; subst e
  have hu : A.units < cLine := by have := hA.units; unfold cLine; omega
  have hlen := hvs.length
  cases xs with
  | nil =>
    have e : vs = [] := hvs.inv_nil
    subst e
    exact RcNeAt.lists (e := fun _ => true) hl hl' rfl hu (fun j h1 _ => absurd h1 (by simp)) C.prog C.w E Q (hQ s (Ext.refl ..))
  | cons x xs =>
    refine RcNeAt.lists_lengths hl hl' ?_ hu C.prog C.w E Q (hQ s (Ext.refl ..))
    simp at hlen ⊢
    intro h; simp [h] at hlen
theorem all_eq_beq : ∀ (xs ys : List PySem.Str), xs.length = ys.length → (List.range xs.length).all (fun j => xs[j]? == ys[j]?) = (xs == ys) := by
  intro xs ys h
  rw [Bool.eq_iff_iff, List.all_eq_true]
  simp only [List.mem_range, beq_iff_eq]
  constructor
  · intro hh
    apply List.ext_getElem?
    intro j
    by_cases hj : j < xs.length
    · exact hh j hj
    · rw [List.getElem?_eq_none (by omega), List.getElem?_eq_none (by omega)]
  · rintro rfl j _; rfl
theorem cmp_ne_strs {xs ys : List PySem.Str} : Cmp2 C .NotEq (.list (xs.map .str)) (.list (ys.map .str)) (xs != ys) := by
  constructor; intro A s W u v Q E hA r₁ r₂ hQ
  obtain ⟨a, vs, rfl, hl, hvs⟩ := rt_list r₁
  obtain ⟨b, us, rfl, hl', hus⟩ := rt_list r₂
  have hu : A.units < cLine := by have := hA.units; unfold cLine; omega
  have h1 := hvs.length
  have h2 := hus.length
  simp only [List.length_map] at h1 h2
  by_cases hxy : xs.length = ys.length
  · have key := RcNeAt.lists (A := A) (s := s) (e := fun j => xs[j]? == ys[j]?) hl hl' (by simp; omega) hu (fun j hj hj' => ?_) C.prog C.w E Q
    · rw [List.size_toArray, ← h1, all_eq_beq xs ys hxy] at key
      exact key (hQ s (Ext.refl ..))
    · simp only [List.size_toArray] at hj hj'
      obtain ⟨x, hx⟩ : ∃ x, xs[j]? = some x := ⟨_, List.getElem?_eq_getElem (by omega)⟩
      obtain ⟨y, hy⟩ : ∃ y, ys[j]? = some y := ⟨_, List.getElem?_eq_getElem (by omega)⟩
      obtain ⟨p, hp, rp⟩ := hvs.get (i := j) (d := .str x) (by rw [List.getElem?_map, hx]; rfl)
      obtain ⟨q, hq, rq⟩ := hus.get (i := j) (d := .str y) (by rw [List.getElem?_map, hy]; rfl)
      obtain ⟨t, rfl⟩ := rd_str_inv rp
      obtain ⟨t', rfl⟩ := rd_str_inv rq
      have e1 : vs.toArray[j] = .str x t := by
        rw [List.getElem?_eq_getElem hj] at hp; simpa using hp
      have e2 : us.toArray[j] = .str y t' := by
        rw [List.getElem?_eq_getElem hj'] at hq; simpa using hq
      rw [e1, e2, hx, hy]
      have := EqAt.str_str (A := A.in1) (s := s) x t y t'
      simpa using this
  · have hne : (xs != ys) = true := by simp only [bne_iff_ne, ne_eq]; rintro rfl; exact hxy rfl
    rw [hne] at hQ
    refine RcNeAt.lists_lengths hl hl' ?_ hu C.prog C.w E Q (hQ s (Ext.refl ..))
    simp; omega

theorem rds_strs {h : Heap} {W : List Addr} : ∀ {xs : List PySem.Str} {vs : List Value}, RDs h W (xs.map .str) vs → StrsAre vs xs
  | [], vs, r => by rw [r.inv_nil]; exact .nil
  | x :: xs, vs, r => by
    obtain ⟨v, r', rfl, h1, h2⟩ := r.inv_cons
    obtain ⟨t, rfl⟩ := rd_str_inv h1
    exact .cons x t (rds_strs h2)
theorem strs_rds {h : Heap} {W : List Addr} : ∀ (l : List (PySem.Str × Tok)), RDs h W ((l.map (·.1)).map .str) (strValues l)
  | [] => RDs.nil
  | (x, t) :: l => RDs.cons rd_str (strs_rds l)
theorem bn_join {x : PySem.Str} {ys : List PySem.Str} (hok : (ys.map (·.length)).sum + ys.length * x.length ≤ 16777216) : BN C "str.join" [.str x, .list (ys.map .str)] (.str (Txt.join x ys)) := by
  constructor; intro A s W vs Q E hA hG hW r hQ
  obtain ⟨u, v, rfl, r1, r2⟩ := r.two_inv
  obtain ⟨t, rfl⟩ := rd_str_inv r1
  obtain ⟨a, us, rfl, _, hl, hus⟩ := rd_list_inv r2
  exact PyProof.Rows.join_list hl (by simpa using rds_strs hus) hok fun t' k => hQ _ _ Ext.toks rd_str
theorem bn_split {x y : PySem.Str} (hy : (y.length == 0) = false) (hsz : x.length ≤ 1000000) : BN C "str.split" [.str x, .str y] (.list ((Txt.split x y).map .str)) := by
  constructor; intro A s W vs Q E hA hG hW r hQ
  obtain ⟨u, v, rfl, r1, r2⟩ := r.two_inv
  obtain ⟨t, rfl⟩ := rd_str_inv r1
  obtain ⟨t', rfl⟩ := rd_str_inv r2
  have hz : x.length ≤ sizeLine := Nat.le_trans hsz (by decide)
  have hn : (partsBetween x (occurrences x y 0 x.length (x.length + 1)) y.length).length ≤ sizeLine := by
    have e1 := StrLaws.occ_length_le x y 0 x.length (x.length + 1)
    rw [length_partsBetween]
    have : (1000002 : Nat) ≤ sizeLine := by decide
    omega
  have fin : ∀ (l : List (PySem.Str × Tok)) (k : Nat), l.map (·.1) = Txt.split x y → Q (.ref s.heap.objs.size) { s with heap := s.heap.push { cls := .type "list", data := .seq (strValues l).toArray }, toks := k } := fun l k hl => by
    refine hQ _ _ ⟨fun _ _ e => Heap.get?_push_of_some _ e, GX.refl .., rfl, rfl⟩ (rd_list (fresh_notin hW (Nat.le_refl _)) ⟨_, Heap.get?_push_size _ rfl, rfl, _, rfl⟩ ?_)
    rw [← hl]; exact strs_rds l
  cases h1 : (decide (x.length < y.length) || decide (strKind x < strKind y))
  · cases hf : (occurrences x y 0 x.length (x.length + 1)).isEmpty
    · refine call_meets F.slot_str_split (typeIs_str _ _ _) F.entry_str_split (F.args_str_split_2 _ _) (meets_str_split_sep x y t t' h1 hy hf hz hn) ?_
      show wants Q E _ { s with toks := _, heap := s.heap.push { cls := .type "list", data := .seq (strsFrom s.toks (partsBetween x (occurrences x y 0 x.length (x.length + 1)) y.length)).toArray } }
      rw [strsFrom_eq]
      exact fin (numbered s.toks _) _ ((numbered_texts _ _).trans ((if_neg (ne_true_of_eq_false h1)).trans (if_neg (ne_true_of_eq_false hf))).symm)
    · exact call_meets F.slot_str_split (typeIs_str _ _ _) F.entry_str_split (F.args_str_split_2 _ _) (meets_str_split_not_found x y t t' h1 hy hf)
        (fin [(x, t)] s.toks ((if_neg (ne_true_of_eq_false h1)).trans (if_pos hf)).symm)
  · exact call_meets F.slot_str_split (typeIs_str _ _ _) F.entry_str_split (F.args_str_split_2 _ _) (meets_str_split_cannot_occur x y t t' h1)
      (fin [(x, t)] s.toks (if_pos h1).symm)

noncomputable def endIndex (len : Nat) (i : Int) : Nat := min (max 0 (if i < 0 then i + len else i)).toNat len
noncomputable def find4 (x y : PySem.Str) (i j : Int) : Int := match occurrences x y (fromIndex x.length i) (endIndex x.length j) 1 with
  | k :: _ => (k : Int)
  | [] => -1
theorem gives_find4 (x y : PySem.Str) (i j : Int) (t u v z : Tok) : Gives («str.find» ⟨[.str x t, .str y u, .int i v, .int j z], []⟩) (.int (find4 x y i j)) := by
  show Gives (match occurrences x y (fromIndex x.length i) (endIndex x.length j) 1 with | k :: _ => retInt k | [] => (do rule "str.find.not-found"; retInt (-1))) _
  unfold find4
  cases occurrences x y (fromIndex x.length i) (endIndex x.length j) 1 with
  | nil => exact .rule (.of_eq rfl)
  | cons k _ => exact .of_eq rfl
theorem bn_find4 {x y : PySem.Str} {i j : Int} : BN C "str.find" [.str x, .str y, .int i, .int j] (.int (find4 x y i j)) := by
  constructor; intro A s W vs Q E hA hG hW r hQ
  obtain ⟨v1, r', rfl, h1, h2⟩ := r.inv_cons
  obtain ⟨v2, r'', rfl, h3, h4⟩ := h2.inv_cons
  obtain ⟨v3, v4, rfl, h5, h6⟩ := h4.two_inv
  obtain ⟨t, rfl⟩ := rd_str_inv h1
  obtain ⟨t2, rfl⟩ := rd_str_inv h3
  obtain ⟨t3, rfl⟩ := rd_int_inv h5
  obtain ⟨t4, rfl⟩ := rd_int_inv h6
  exact call_gives F.slot_str_find (typeIs_str _ _ _) F.entry_str_find (F.args_str_find_4 _ _ _ _) (gives_find4 x y i j t t2 t3 t4) (hQ _ _ Ext.toks rd_int)
end
end Mine
end

section
namespace Mine
open PySem.Calls PySem.Builtin PySem.Builtin.Str PySem.SeqAt

theorem tail_slice {prog : Program} {w : World} {A : Around} {E : Value → Shared → Prop} {s : Shared} {value : Expr} {lower upper : Option Expr} {p : Pos} {o i : Value} {T id : String} {Q : Value → Shared → Prop} (hT : s.TypeIs o T)
    (hl : typeLookup (.type T) "__getitem__" = pure (some (.builtin id))) (h : wpAny (model prog w) A (getItem o i) Q E s) : wpAny (model prog w) A (subscriptTail value (.Slice lower upper none p) o i) Q E s := by
  unfold subscriptTail
  refine wpAny_bind ?_
  rw [getitemInPython_of_ne hT.not_modules]
  refine wpAny_bind (wpAny_specialOf hT hl ?_)
  have fin : wpAny (model prog w) A (operate [i, o] (getItem o i)) (fun r s₃ => wpAny (model prog w) A (letTemporaryGo value o r >>= fun _ => pure r) Q E s₃) E s :=
    wpAny_operating (wpAny_mono h (fun r s₃ h₃ => wpAny_bind (wpAny_letTemporaryGo (wpAny_pure h₃))) fun _ _ x => x)
  first
    | exact wpAny_pure (wpAny_bind fin)
    | exact wpAny_bind (wpAny_pure (wpAny_bind fin))
    | exact wpAny_bind fin

section
variable {C : Cx} {σ : List LV}
theorem se_slice {value : Expr} {lower upper : Option Expr} {p pos : Pos} {xs : List D} {lo hi : Option Int} (hv : SEt C σ value (.list xs)) (hlo : SP C σ lower lo) (hhi : SP C σ upper hi)
    (h0 : ∀ i, lo = some i → 0 ≤ i) (h1 : ∀ i, hi = some i → 0 ≤ i) (hb : lo = none ∨ hi = none) (hsz : xs.length ≤ 1000000) :
    SE C σ (.Subscript value (.Slice lower upper none p) pos) (.list (cut xs lo hi)) := by
  constructor; intro A h₀ s Q E hA hG hR hQ
  refine Subscript_ (hv.run A h₀ s _ _ hA hG hR fun o s₁ x₁ r₁ => wpAny_Slice ?_)
  have R₁ := hR.ext x₁.keep
  refine hlo.run A h₀ s₁ _ _ hA hG R₁ fun vl s₂ x₂ p₂ => ?_
  have R₂ := R₁.ext x₂.keep
  refine hhi.run A h₀ s₂ _ _ hA hG R₂ fun vu s₃ x₃ p₃ => ?_
  rw [evalPart_none]
  refine wpAny_pure ?_
  obtain ⟨a, vs, rfl, hl, hvs⟩ := rt_list ((r₁.keep x₂.keep).keep x₃.keep)
  have hlen := hvs.length
  have R₃ := R₂.ext x₃.keep
  refine tail_slice (Heap.IsList.typeIs (s := { s₃ with heap := s₃.heap.push _ }) (hl.push _)) list_getitem_lookup (wpAny_getItem_list_slice (s := { s₃ with heap := s₃.heap.push _ }) (hl.push _) (Heap.IsSliceOf.new ..) p₂ p₃ .none (by simp) ?_ ?_)
  · rw [Heap.size_push, slicePick_cut h0 h1 hb]
    refine hQ _ _ (((x₁.trans x₂).trans x₃).trans (Ext.push.trans (Ext.push (s := { s₃ with heap := s₃.heap.push _ })))) (rd_list ?_ (vs := cut vs lo hi) ⟨_, by rw [← Heap.size_push s₃.heap]; exact Heap.get?_push_size _ rfl, rfl, _, rfl⟩ ((hvs.cut lo hi).keepPush.keepPush))
    exact fresh_notin R₃.ownThere (Nat.le_succ _)
  · simp [← hlen]; exact Nat.le_trans hsz (by decide)
theorem se_upto {value e : Expr} {p pos : Pos} {xs : List D} {k : Int} (hv : SEt C σ value (.list xs)) (he : SEt C σ e (.int k)) (h0 : 0 ≤ k) (hsz : xs.length ≤ 1000000) :
    SE C σ (.Subscript value (.Slice none (some e) none p) pos) (.list (xs.take k.toNat)) :=
  se_slice hv sp_none (sp_some he) (fun _ e => nomatch e) (fun _ e => by cases e; exact h0) (.inl rfl) hsz
theorem se_from {value e : Expr} {p pos : Pos} {xs : List D} {k : Int} (hv : SEt C σ value (.list xs)) (he : SEt C σ e (.int k)) (h0 : 0 ≤ k) (hsz : xs.length ≤ 1000000) :
    SE C σ (.Subscript value (.Slice (some e) none none p) pos) (.list (xs.drop k.toNat)) :=
  se_slice hv (sp_some he) sp_none (fun _ e => by cases e; exact h0) (fun _ e => nomatch e) (.inr rfl) hsz

theorem CompOk.plain {scope : Scope} {x : PySem.Str} (hfree : ∀ y ∈ scope.names, y.2 ≠ .free) (hcell : ∀ y ∈ scope.names, y.2 ≠ .cell) (hkind : scope.kind = .function)
    (hnames : ∀ y ∈ scope.names, y.2 = .local → scope.names.lookup y.1 = some .local) (htgt : scope.names.lookup x = some .local) : CompOk C σ scope [] x [] [] := by
  refine ⟨closureFor_none hfree, hcell, hkind, hnames, htgt, fun y hy => absurd hy List.not_mem_nil, fun y hy hc => ?_, fun y hy => absurd hy List.not_mem_nil, fun j y lv h => by simp at h, rfl⟩
  unfold relabel at hy
  simp only [List.mem_map] at hy
  obtain ⟨⟨n, k⟩, hm, e⟩ := hy
  have hk : (k == NameKind.free) = false := by have := hfree _ hm; simpa using this
  simp only [hk, Bool.false_and, Bool.false_eq_true, if_false] at e
  cases e
  exact absurd hc (hcell _ hm)

theorem filter_all {ds : List D} : ds.filter (fun _ => true) = ds := List.filter_eq_self.mpr fun _ _ => rfl
theorem se_map {elt iter : Expr} {x : PySem.Str} {px pos : Pos} {scope : Scope} {cl : List (PySem.Str × Addr)} {caps : List PySem.Str} {cvals : List LV} {ds : List D} (f : D → D)
    (O : CompOk C σ scope cl x caps cvals) (he : SI C σ iter ds) (hfl : ∀ d ∈ ds, d.flat = true)
    (helt : ∀ L, ∀ d ∈ ds, SE (C.comp scope cl L x caps) (.val d :: cvals) elt (f d)) (hff : ∀ d ∈ ds, (f d).flat = true) (hsz : ds.length ≤ 1000000)
    (hs : ∀ x, foldedSetIterable iter C.env x = pure x := by intro _; rfl) : SE C σ (.ListComp elt [⟨.Name x px, iter, [], 0⟩] scope pos) (.list (ds.map f)) := by
  have := se_comp (pos := pos) (px := px) (ifs := []) (fun _ => true) f O he hfl (fun _ _ _ => rfl) (fun L d hd _ => helt L d hd) (fun d hd _ => hff d hd) hsz hs
  rwa [filter_all] at this
theorem s1_map {elt iter : Expr} {x y : PySem.Str} {px py pos spos : Pos} {scope : Scope} {cl : List (PySem.Str × Addr)} {caps : List PySem.Str} {cvals : List LV} {ds : List D} {P : Out → Prop} (i : Nat) (f : D → D) (hF : C.Fn) (hi : C.vars[i]? = some y) (hy : C.env.kindOf y = some .local)
    (O : CompOk C σ scope cl x caps cvals) (he : SI C σ iter ds) (hfl : ∀ d ∈ ds, d.flat = true)
    (helt : ∀ L, ∀ d ∈ ds, SE (C.comp scope cl L x caps) (.val d :: cvals) elt (f d)) (hff : ∀ d ∈ ds, (f d).flat = true) (hsz : ds.length ≤ 1000000)
    (hP : P (.next (σ.set i (.val (.list (ds.map f))))))
    (hsw : swapsWith (.ListComp elt [⟨.Name x px, iter, [], 0⟩] scope pos) (some (.Name y py)) spos.line C.env = pure true := by rfl)
    (hs : ∀ x, foldedSetIterable iter C.env x = pure x := by intro _; rfl) : S1 C σ (.Assign [.Name y py] (.ListComp elt [⟨.Name x px, iter, [], 0⟩] scope pos) spos) P :=
  s1_comp i (fun _ => true) f hF hi hy O he hfl (fun _ _ _ => rfl) (fun L d hd _ => helt L d hd) (fun d hd _ => hff d hd) hsz (by rw [filter_all]; exact hP) hsw hs
end
end Mine
end

section
namespace Mine
open PySem.Calls PySem.Builtin PySem.Builtin.Str

section
variable {M : Model} {A : Around} {R : GenEnd} {Y : Protocol} {n : Nat} {s₀ : Shared} {c : Code} {fs : List Frame} {s : Shared} {env : Env}
  {K : Flow → Sem Fin} {H : Value → Sem Fin} {gd : Bool → Bool} {lv : List Value → List Value}

theorem seg_If {test : Expr} {body orelse : List Stmt} {pos : Pos}
    (h : ∀ E, wpAny M (A.over c fs) (isTrue test env (eval test env)) (fun b s' => if b = true then Seg M A R Y n s₀ c ((execs body env).wrap K H gd lv) fs s' else Seg M A R Y n s₀ c ((execs orelse env).wrap K H gd lv) fs s') E s) :
    Seg M A R Y n s₀ c ((exec (.If test body orelse pos) env).wrap K H gd lv) fs s := by
  rw [exec_If]
  show Seg M A R Y n s₀ c (.at pos fun _ => (isTrue test env (eval test env) >>= fun b => if b = true then execs body env else execs orelse env).wrap K H gd lv) fs s
  refine seg_at ?_
  rw [Sem.bind_eq_wrap', Sem.wrap_wrap]
  refine seg_wrap (wpAny_mono (h _) (fun b s' hb => ?_) fun _ _ x => x)
  cases b with
  | true => simpa using hb
  | false => simpa using hb

theorem seg_stmt {st : Stmt} (h : ∀ E, wpAny M (A.over c fs) (exec st env) (fun f s' => f = .next ∧ Seg M A R Y n s₀ c (K .next) fs s') E s) : Seg M A R Y n s₀ c ((exec st env).wrap K H gd lv) fs s :=
  seg_wrap (wpAny_mono (h _) (fun f s' hf => by obtain ⟨rfl, hf⟩ := hf; exact hf) fun _ _ x => x)

theorem seg_For {target iter : Expr} {body orelse : List Stmt} {pos : Pos} (hs : ∀ x, foldedSetIterable iter env x = pure x)
    (h : ∀ E, wpAny M (A.over c fs) (eval iter env) (fun x s₁ => wpAny M (A.over c fs) (pyIter x) (fun it s₂ => ∀ k p,
      (∀ f, k (.ok f) = K f) → Seg M A R Y n s₀ (.forLoop target it body orelse env) (M.den (.forLoop target it body orelse env)) (.ret k none (gd false) (lv []) c p [] :: fs) s₂) E s₁) E s) :
    Seg M A R Y n s₀ c ((exec (.For target iter body orelse pos) env).wrap K H gd lv) fs s := by
  rw [exec_For]
  show Seg M A R Y n s₀ c (.at pos fun _ => (eval iter env >>= fun x0 => foldedSetIterable iter env x0 >>= fun x => standAt iter.pos >>= fun _ => holding [x] (pyIter x) >>= fun it => runOwn (.forLoop target it body orelse env) env).wrap K H gd lv) fs s
  refine seg_at ?_
  rw [Sem.bind_eq_wrap', Sem.wrap_wrap]
  refine seg_wrap (wpAny_mono (h _) (fun x s₁ h₁ => ?_) fun _ _ x => x)
  rw [hs x]
  show Seg M A R Y n s₀ c (.at iter.pos fun _ => (holding [x] (pyIter x) >>= fun it => runOwn (.forLoop target it body orelse env) env).wrap K H gd lv) fs s₁
  refine seg_at ?_
  rw [Sem.bind_eq_wrap', Sem.wrap_wrap]
  refine seg_wrap (wpAny_holding (wpAny_mono h₁ (fun it s₂ h₂ => ?_) fun _ _ x => x))
  exact seg_call fun p => h₂ _ p fun f => rfl
end

section
variable {prog : Program} {w : World} {A : Around} {R : GenEnd} {Y : Protocol} {n : Nat} {s₀ : Shared} {fs : List Frame} {s : Shared} {env : Env}
theorem seg_forLoop {target : Expr} {it : Value} {body orelse : List Stmt}
    (h : ∀ E, wpAny (model prog w) (A.over (.forLoop target it body orelse env) fs) (pyNext it) (fun r s₁ => match r with
      | none => Seg (model prog w) A R Y n s₀ (.block orelse env) ((model prog w).den (.block orelse env)) fs s₁
      | some v => ∀ E₁, wpAny (model prog w) (A.over (.forLoop target it body orelse env) fs) (letOwnedTupleGo target it v) (fun _ s₂ => ∀ E₂, wpAny (model prog w) (A.over (.forLoop target it body orelse env) fs) (assign target env v) (fun _ s₃ =>
          ∀ (K : Flow → Sem Fin) (H : Value → Sem Fin), K .next = .pure (.again (.forLoop target it body orelse env)) → Seg (model prog w) A R Y n s₀ (.forLoop target it body orelse env) ((execs body env).wrap K H id id) fs s₃) E₂ s₂) E₁ s₁) E s) :
    Seg (model prog w) A R Y n s₀ (.forLoop target it body orelse env) ((model prog w).den (.forLoop target it body orelse env)) fs s := by
  show Seg _ A R Y n s₀ _ ((forTurn target it body orelse env).onRaise (fun x => do noteFrame x env; theTreesLotGoes x)) fs s
  unfold forTurn
  rw [Sem.onRaise_eq_wrap]
  refine seg_at ?_
  show Seg _ A R Y n s₀ _ ((((pyNext it).onRaise fun _ => standAt { target.pos with line := 0 }) >>= _).wrap _ _ _ _) fs s
  rw [Sem.onRaise_eq_wrap, Sem.bind_eq_wrap', Sem.wrap_wrap, Sem.wrap_wrap]
  refine seg_wrap (wpAny_mono (h _) (fun r s₁ h₁ => ?_) fun _ _ x => x)
  cases r with
  | none => exact seg_again rfl h₁
  | some v =>
    show Seg _ A R Y n s₀ _ ((letOwnedTupleGo target it v >>= fun _ => assign target env v >>= fun _ => execs body env >>= _).wrap _ _ _ _) fs s₁
    rw [Sem.bind_eq_wrap', Sem.wrap_wrap]
    refine seg_wrap (wpAny_mono (h₁ _) (fun _ s₂ h₂ => ?_) fun _ _ x => x)
    rw [Sem.bind_eq_wrap', Sem.wrap_wrap]
    refine seg_wrap (wpAny_mono (h₂ _) (fun _ s₃ h₃ => ?_) fun _ _ x => x)
    rw [Sem.bind_eq_wrap', Sem.wrap_wrap]
    exact h₃ _ _ rfl
end
end Mine
end

section
namespace Mine
open PySem.Calls PySem.Builtin PySem.Builtin.Str

section
variable {prog : Program} {w : World} {A : Around} {E : Value → Shared → Prop} {s : Shared}
/-- the next item of a def's generator; the state left behind is one without cleanup -/
theorem gen_next {a : Addr} {g n : Nat} {gs : GenState} {P : Nat → Shared → Shared → Prop} {Y : Protocol} {Q : Option Value → Shared → Prop} (hh : A.handled = none) (hl : s.heap.NoLimit) (hroom : A.depth < recursionLimit)
    (hg : s.heap.IsGen a g) (hgs : s.gens[g]? = some gs)
    (hgo : gs.Goes (model prog w) A.in1 (fun n s₀ r s₁ => r = .ok (.ret .none) ∧ P n s₀ s₁) Y n (.send .none) (s.setGen g .running))
    (hY : ∀ v s₁ gs', gs'.bare = true → Y (n - 1) (s.setGen g .running) v s₁ (fun r' s'' => match n with
        | 0 => False
        | m + 1 => gs'.Goes (model prog w) A.in1 (fun n s₀ r s₁ => r = .ok (.ret .none) ∧ P n s₀ s₁) Y m r' s'') → Q (some v) (s₁.setGen g gs'))
    (hP : ∀ s₁, P n (s.setGen g .running) s₁ → ∀ h', (∀ b o, s₁.heap.get? b = some o → h'.get? b = some o) → Q none { s₁.setGen g .finished with heap := h' }) :
    wpAny (model prog w) A (pyNext (.ref a)) Q E s := by
  unfold pyNext
  refine wpAny_bind (wpAny_attempt ?_)
  refine wpAny_callSpecial?_slot (name := Str.ofString "__next__") hg.typeIs slot_gen_next (wpAny_call_entry slot_gen_next hg.typeIs entry_gen_next ?_ (args_gen_next _))
  show wpAny _ _ (Builtin.Generator.genWake (.ref a) (.send .none)) _ _ s
  unfold Builtin.Generator.genWake
  refine wpAny_bind (wpAny_holding (wpAny_genNumber hg ?_))
  refine wpAny_bind (wpAny_genState hgs ?_)
  have live : gs.status = .fresh ∨ gs.status = .suspended := by
    cases gs with
    | fresh _ => exact .inl rfl
    | suspended _ _ _ _ _ _ => exact .inr rfl
    | running => exact hgo.elim
    | finished => exact hgo.elim
  generalize gs.status = st at live
  rcases live with rfl | rfl
  all_goals
    refine wpAny_bind (wpAny_roomToWake hl hroom ?_)
    show wpAny _ _ (.resume g (.send .none) [] _) _ _ s
    refine wpAny_resumeQ hgs hgo (fun x s₁ hx => ?_) fun v s₁ gs' hb hv => wpAny_pure ⟨v, rfl, wpAny_pure (hY v s₁ gs' hb hv)⟩
    obtain ⟨rfl, hp⟩ := hx
    show wpAny _ _ (newExc (.type "StopIteration") [] >>= _) _ _ _
    simp only [newExc, newTuple]
    refine wpAny_bind (wpAny_bind (wpAny_newObj_type ?_ (by size_fits)))
    refine wpAny_bind (m := firstArgMember _ _) (wpAny_of_eq (a := Value.none) (by first | rfl | (simp only [firstArgMember]; rfl)) (wpAny_newObj_type ?_ (by size_fits)))
    unfold raiseNew
    dsimp only
    refine wpAny_bind (wpAny_bind (wpAny_handled ?_))
    rw [show A.in1.handled = none from hh]
    refine wpAny_throw (wpAny_bind (wpAny_isInstance (T := "StopIteration") (b := true) ⟨_, Heap.get?_push_size _ rfl, rfl⟩ isSubtype_stop ?_))
    exact wpAny_pure (hP s₁ hp _ fun b o hb => Heap.get?_push_of_some _ (Heap.get?_push_of_some _ hb))
end
end Mine
end

section
namespace Mine
open PySem.Calls PySem.Builtin PySem.Builtin.Str

/-- what a generator may do while it runs -/
structure GRun (Pr : Addr → Prop) (s₀ s : Shared) : Prop where
  keep : ∀ b o, ¬ Pr b → s₀.heap.get? b = some o → s.heap.get? b = some o
  gens : s.gens = s₀.gens
  os : s.os = s₀.os
  drawn : s.drawn = s₀.drawn
theorem GRun.refl (Pr : Addr → Prop) (s : Shared) : GRun Pr s s := ⟨fun _ _ _ e => e, rfl, rfl, rfl⟩
theorem GRun.ext {Pr : Addr → Prop} {s₀ s s' : Shared} (x : GRun Pr s₀ s) (y : Ext true s s') : GRun Pr s₀ s' := ⟨fun b o hb e => y.keep b o (x.keep b o hb e), (show s'.gens = s.gens from y.gens).trans x.gens, y.os.trans x.os, y.drawn.trans x.drawn⟩
theorem GRun.heap {Pr : Addr → Prop} {s₀ s : Shared} {h' : Heap} {tk : Nat} (x : GRun Pr s₀ s) (hk : ∀ b o, ¬ Pr b → s.heap.get? b = some o → h'.get? b = some o) : GRun Pr s₀ { s with heap := h', toks := tk } :=
  ⟨fun b o hb e => hk b o hb (x.keep b o hb e), x.gens, x.os, x.drawn⟩

/-- the names of a generator's frame all hold flat data -/
noncomputable def AllFlat (σ : List LV) : Prop := ∀ lv ∈ σ, lv = .unset ∨ ∃ d, lv = .val d ∧ d.flat = true
theorem AllFlat.ws {σ : List LV} (h : AllFlat σ) : Ws σ = [] := by
  apply List.eq_nil_iff_forall_not_mem.mpr
  intro a ha
  obtain ⟨x, hx, hax⟩ := List.mem_flatMap.mp ha
  rcases h x hx with rfl | ⟨d, rfl, _⟩ <;> simp [LV.w] at hax
/-- the frame woken again -/
theorem Rel.wake {env : Env} {vars : List PySem.Str} {hb h h' : Heap} {σ : List LV} (R : Rel env vars hb σ h) (hf : AllFlat σ) (hnc : ∀ x, env.cells.lookup x = none) (hL : ∀ o, h.get? env.locals = some o → h'.get? env.locals = some o) (hk : ∀ b o, hb.get? b = some o → h'.get? b = some o) : Rel env vars hb σ h' := by
  have ns : ∀ m, h.Ns env.locals m → h'.Ns env.locals m := fun m hn => hn.at' hL
  refine ⟨hk, let ⟨m, x⟩ := R.ns; ⟨m, ns m x⟩, R.newL, fun x hx => ?_, R.cellsNew, R.apart, fun i x lv h1 h2 => ?_, R.ownNew, R.nd, R.len⟩
  · obtain ⟨c, v, h1, _⟩ := R.cells x hx
    rw [hnc] at h1; cases h1
  · have hv := R.vals i x lv h1 h2
    rcases hf lv (List.mem_of_getElem? h2) with rfl | ⟨d, rfl, hd⟩
    · trivial
    · obtain ⟨v, l, r⟩ := hv
      refine ⟨v, ?_, ?_⟩
      · rcases l with ⟨k, m, hn, hm⟩ | ⟨k, c, hc, _⟩
        · exact .inl ⟨k, m, ns m hn, hm⟩
        · rw [hnc] at hc; cases hc
      · obtain ⟨h3, h4⟩ := rd_flat hd r
        rw [← h4]; exact flat_rd h3

structure GInv (C : Cx) (hb : Heap) (Pr : Addr → Prop) (σ : List LV) (s₀ s : Shared) : Prop where
  rel : Rel C.env C.vars hb σ s.heap
  run : GRun Pr s₀ s
theorem GInv.ext {C : Cx} {hb : Heap} {Pr : Addr → Prop} {σ : List LV} {s₀ s s' : Shared} (I : GInv C hb Pr σ s₀ s) (x : Ext true s s') : GInv C hb Pr σ s₀ s' := ⟨I.rel.ext x.keep, I.run.ext x⟩

section
variable {C : Cx} {σ : List LV} {A : Around} {R : GenEnd} {Y : Protocol} {n : Nat} {s₀ s : Shared} {c : Code} {fs : List Frame} {K : Flow → Sem Fin} {H : Value → Sem Fin} {gd : Bool → Bool} {lv : List Value → List Value} {hb : Heap} {Pr : Addr → Prop}
theorem g_stmt {st : Stmt} {σ' : List LV} (hF : C.Fn) (hq : C.q = true) (hnc : ∀ x, C.env.cells.lookup x = none) (hPr : Pr C.env.locals) (hfl : AllFlat σ) (S : S1 C σ st fun o => o = .next σ') (hA : AOK C.n (A.over c fs)) (hG : GC C.K C.mg C.mb hb) (I : GInv C hb Pr σ s₀ s)
    (k : ∀ s', (∀ b o, b ≠ C.env.locals → s.heap.get? b = some o → s'.heap.get? b = some o) → GInv C hb Pr σ' s₀ s' → Seg (model C.prog C.w) A R Y n s₀ c (K .next) fs s') : Seg (model C.prog C.w) A R Y n s₀ c ((exec st C.env).wrap K H gd lv) fs s := by
  refine seg_stmt fun E => ?_
  obtain ⟨h₁, k1, R₁, good, _, _⟩ := I.rel.rebase hF.func
  refine S.run _ h₁ s _ E hA (hG.keeps k1) R₁ fun f s' x e => ?_
  have hmine : ∀ b, b ≠ C.env.locals → ¬ Mine' C.env σ b := fun b hbL => by
    rintro (h | h | ⟨y, c', hc, _⟩)
    · rw [hfl.ws] at h; cases h
    · exact hbL h
    · rw [hnc] at hc; cases hc
  cases f with
  | next =>
    obtain ⟨σ₁, h1, R'⟩ := e
    cases h1
    have kp : ∀ b o, b ≠ C.env.locals → s.heap.get? b = some o → s'.heap.get? b = some o := fun b o hbL e => R'.keep b o (good b o e (hmine b hbL))
    have hg : s'.gens = s.gens := by have := x.gens; rw [hq] at this; exact this
    exact ⟨rfl, k s' kp ⟨R'.under k1, ⟨fun b o hbp e => kp b o (fun e' => hbp (e' ▸ hPr)) (I.run.keep b o hbp e), hg.trans I.run.gens, x.os.trans I.run.os, x.drawn.trans I.run.drawn⟩⟩⟩
  | brk => obtain ⟨_, h1, _⟩ := e; cases h1
  | cont => obtain ⟨_, h1, _⟩ := e; cases h1
  | ret v => obtain ⟨_, h1, _⟩ := e; cases h1

theorem g_if {t : Expr} {body orelse : List Stmt} {pos : Pos} {b : Bool} (hq : C.q = true) (T : ST C σ t b) (hA : AOK C.n (A.over c fs)) (hG : GC C.K C.mg C.mb hb) (I : GInv C hb Pr σ s₀ s)
    (h1 : b = true → ∀ s', Ext true s s' → Seg (model C.prog C.w) A R Y n s₀ c ((execs body C.env).wrap K H gd lv) fs s') (h2 : b = false → ∀ s', Ext true s s' → Seg (model C.prog C.w) A R Y n s₀ c ((execs orelse C.env).wrap K H gd lv) fs s') :
    Seg (model C.prog C.w) A R Y n s₀ c ((exec (.If t body orelse pos) C.env).wrap K H gd lv) fs s := by
  refine seg_If fun E => T.run _ hb s _ E hA hG I.rel fun s' x => ?_
  rw [hq] at x
  cases b with
  | true => simp only [if_true]; exact h1 rfl s' x
  | false => simp only [Bool.false_eq_true, if_false]; exact h2 rfl s' x
end

/-- the protocol: pairs of an int and a text -/
noncomputable def GY (Pr : Addr → Prop) (hb : Heap) (ys : List (Int × PySem.Str)) : Protocol := fun m s₀ v s' kap =>
  ∃ T t u p x, v = .ref T ∧ s'.heap.IsTuple T #[.int p t, .str x u] ∧ m < ys.length ∧ ys[ys.length - 1 - m]? = some (p, x) ∧ GRun Pr s₀ s' ∧
    ∀ s'', (∀ b o, Pr b → s'.heap.get? b = some o → s''.heap.get? b = some o) → (∀ b o, hb.get? b = some o → s''.heap.get? b = some o) → kap (.send .none) s''
noncomputable def GR (Pr : Addr → Prop) : GenEnd := fun n s₀ r s₁ => r = .ok (.ret .none) ∧ (n = 0 ∧ GRun Pr s₀ s₁)

section
variable {C : Cx} {σ : List LV} {A : Around} {n : Nat} {s₀ s : Shared} {c : Code} {fs : List Frame} {K : Flow → Sem Fin} {H : Value → Sem Fin} {gd : Bool → Bool} {lv : List Value → List Value} {hb : Heap} {Pr : Addr → Prop} {ys : List (Int × PySem.Str)}
theorem g_yield {e₁ e₂ : Expr} {k : Nat} {tp yp pos : Pos} {p : Int} {x : PySem.Str} {St : Heap → Prop} (hF : C.Fn) (hq : C.q = true) (hnc : ∀ x, C.env.cells.lookup x = none) (hfl : AllFlat σ) (hfs : splitAtGen fs = none) (hgd : gd false = false) (hfg : fs.any Frame.guarded = false)
    (hP : SEl C σ tp [e₁, e₂] [.int p, .str x]) (hA : AOK C.n (A.over c fs)) (hG : GC C.K C.mg C.mb hb) (I : GInv C hb Pr σ s₀ s) (hn : n < ys.length) (hy : ys[ys.length - 1 - n]? = some (p, x)) (hPr : Pr C.env.locals)
    (hSt : St s.heap) (hframe : ∀ h h', St h → (∀ b o, Pr b → h.get? b = some o → h'.get? b = some o) → St h')
    (hk : ∀ s', GInv C hb Pr σ s' s' → St s'.heap → Seg (model C.prog C.w) A (GR Pr) (GY Pr hb ys) n s' c (K .next) fs s')
    (hco : C.env.scope.isCoroutine = false := by rfl) (hi : interactive C.env = false := by rfl) :
    Seg (model C.prog C.w) A (GR Pr) (GY Pr hb ys) (n + 1) s₀ c ((exec (.Expr (.Yield (some (.Tuple [e₁, e₂] k tp)) yp) pos) C.env).wrap K H gd lv) fs s := by
  refine seg_Expr_Yield hfs hgd hfg ?_ hco hi
  refine wpAny_Tuple_spliced (hP.run _ hb s _ _ hA hG I.rel fun vs s₁ x₁ r₁ => ?_)
  rw [hq] at x₁
  obtain ⟨u, v, rfl, hu, hv⟩ := r₁.two_inv
  obtain ⟨t, rfl⟩ := rd_int_inv hu
  obtain ⟨t', rfl⟩ := rd_str_inv hv
  refine ⟨(by decide : 2 ≤ sizeLine), fun kap hkap => ?_⟩
  have I₂ : GInv C hb Pr σ s₀ { s₁ with heap := s₁.heap.push { cls := .type "tuple", data := .seq [Value.int p t, Value.str x t'].toArray } } := (I.ext x₁).ext Ext.push
  refine ⟨s₁.heap.objs.size, t, t', p, x, rfl, ⟨_, Heap.get?_push_size _ rfl, rfl, _, rfl⟩, hn, hy, I₂.run, fun s'' h1 h2 => hkap .none s'' ?_⟩
  have hW : Rel C.env C.vars hb σ s''.heap := I₂.rel.wake hfl hnc (fun o e => h1 _ o hPr e) h2
  exact hk s'' ⟨hW, GRun.refl ..⟩ (hframe _ _ hSt fun b o hb' e => h1 b o hb' (Heap.get?_push_of_some _ (x₁.keep b o e)))
end
end Mine
end

section
namespace Mine
open PySem.Calls PySem.Builtin PySem.Builtin.Str

theorem AOK.over_func {n : Nat} {A : Around} {body : List Stmt} {env : Env} (h : AOK (n + 2) A) : AOK n (A.over (.func body env) []) := by
  refine ⟨?_, ?_, ?_⟩
  · show A.handled = none; exact h.handled
  · have := h.depth
    have e : Code.weight (.func body env) = 1 := rfl
    show A.depth + 0 + Code.weight (.func body env) + n ≤ 900
    omega
  · have := h.units
    have e : Code.cUnits (.func body env) = 3 := rfl
    show A.units + 0 + Code.cUnits (.func body env) + 20 * n ≤ 9000
    omega
theorem AOK.over_loop {n : Nat} {A : Around} {body b o : List Stmt} {t : Expr} {it : Value} {env : Env} {p : Pos} {k : Result → Sem Fin} (h : AOK (n + 2) A) : AOK n (A.over (.forLoop t it b o env) [.ret k none false [] (.func body env) p []]) := by
  refine ⟨?_, ?_, ?_⟩
  · show A.handled = none; exact h.handled
  · have := h.depth
    have e : Code.weight (.func body env) = 1 := rfl
    have e' : Code.weight (.forLoop t it b o env) = 0 := rfl
    show A.depth + (0 + Code.weight (.func body env)) + Code.weight (.forLoop t it b o env) + n ≤ 900
    omega
  · have := h.units
    have e : Code.cUnits (.func body env) = 3 := rfl
    have e' : Code.cUnits (.forLoop t it b o env) = 0 := rfl
    show A.units + (0 + Code.cUnits (.func body env)) + Code.cUnits (.forLoop t it b o env) + 20 * n ≤ 9000
    omega
theorem AOK.in1 {n : Nat} {A : Around} (h : AOK (n + 1) A) : AOK n A.in1 := ⟨h.handled, by have := h.depth; show A.depth + n ≤ 900; omega, by have := h.units; show A.units + 1 + 20 * n ≤ 9000; omega⟩

section
variable {C : Cx} {σ : List LV} {A : Around} {s₀ s : Shared} {hb : Heap} {Pr : Addr → Prop} {E : Value → Shared → Prop}
theorem g_mine (hnc : ∀ x, C.env.cells.lookup x = none) (hfl : AllFlat σ) {b : Addr} (hbL : b ≠ C.env.locals) : ¬ Mine' C.env σ b := by
  rintro (h | h | ⟨y, c', hc, _⟩)
  · rw [hfl.ws] at h; cases h
  · exact hbL h
  · rw [hnc] at hc; cases hc
/-- a flat value goes to a name of the generator's frame -/
theorem g_store {x : PySem.Str} {v : Value} {d : D} {Q : Unit → Shared → Prop} (i : Nat) (hF : C.Fn) (hnc : ∀ x, C.env.cells.lookup x = none) (hPr : Pr C.env.locals) (hfl : AllFlat σ) (hi : C.vars[i]? = some x) (hx : C.env.kindOf x = some .local) (I : GInv C hb Pr σ s₀ s)
    (hv : RD s.heap (Ws σ) d v) (h : ∀ h' tk, (∀ b o, b ≠ C.env.locals → s.heap.get? b = some o → h'.get? b = some o) → GInv C hb Pr (σ.set i (.val d)) s₀ { s with heap := h', toks := tk } → Q () { s with heap := h', toks := tk }) :
    wpAny (model C.prog C.w) A (storeName C.env x v) Q E s := by
  obtain ⟨h₁, k1, R₁, good, _, _⟩ := I.rel.rebase hF.func
  refine store_val R₁ hF.kind hF.func hi hF.nd (.inl hx) hv fun h' tk R' => ?_
  have kp : ∀ b o, b ≠ C.env.locals → s.heap.get? b = some o → h'.get? b = some o := fun b o hbL e => R'.keep b o (good b o e (g_mine hnc hfl hbL))
  exact h h' tk kp ⟨R'.under k1, I.run.heap fun b o hbp e => kp b o (fun e' => hbp (e' ▸ hPr)) e⟩
theorem AllFlat.set {d : D} {i : Nat} (hfl : AllFlat σ) (hd : d.flat = true) : AllFlat (σ.set i (.val d)) := fun lv hm => by
  rcases List.mem_or_eq_of_mem_set hm with h | h
  · exact hfl lv h
  · exact .inr ⟨d, h, hd⟩
theorem GInv.away {wr : List Addr} (hF : C.Fn) {h' : Heap} {tk : Nat} (I : GInv C hb Pr σ s₀ s) (hk : ∀ b o, b ∉ wr → s.heap.get? b = some o → h'.get? b = some o) (hw : ∀ b ∈ wr, Fielded s.heap b) (hn : ∀ b ∈ wr, hb.get? b = none) (hp : ∀ b ∈ wr, Pr b) : GInv C hb Pr σ s₀ { s with heap := h', toks := tk } :=
  ⟨I.rel.away hk hw hn, I.run.heap fun b o hbp e => hk b o (fun hm => hbp (hp b hm)) e⟩
end


/-- what the walk over a numbered text stands on -/
noncomputable def EnumAt (e it : Addr) (txt : PySem.Str) (t : Tok) (j : Nat) (h : Heap) : Prop := (∃ old, IsEnum h e it j old) ∧ h.IsStrIter it (strIterType txt) txt t j
theorem EnumAt.frame {e it : Addr} {txt : PySem.Str} {t : Tok} {j : Nat} {h h' : Heap} (st : EnumAt e it txt t j h) (h1 : ∀ o, h.get? e = some o → h'.get? e = some o) (h2 : ∀ o, h.get? it = some o → h'.get? it = some o) : EnumAt e it txt t j h' := by
  obtain ⟨⟨old, a⟩, ⟨o, b, r⟩⟩ := st
  exact ⟨⟨old, h1 _ a⟩, ⟨o, h2 _ b, r⟩⟩
theorem draws_str {prog : Program} {w : World} {A : Around} (hh : A.handled = none) (it : Addr) (x : PySem.Str) (t : Tok) :
    Draws prog w A it [it] x.cps.size (fun i v => ∃ c u, x.cps[i]? = some c ∧ v = .str ⟨#[c]⟩ u) (fun i h => h.IsStrIter it (strIterType x) x t i) := by
  unfold strIterType
  split
  · exact Draws.strAscii hh it x t
  · exact Draws.strWide hh it x t

section
variable {C : Cx} {σ : List LV} {A : Around} {R : GenEnd} {Y : Protocol} {n : Nat} {s₀ s : Shared} {fbody : List Stmt} {K : Flow → Sem Fin} {H : Value → Sem Fin} {hb : Heap} {Pr : Addr → Prop}
theorem g_enum_loop {x y : PySem.Str} {px py tp : Pos} {k : Nat} {body : List Stmt} {txt : PySem.Str} {e it : Addr} {t : Tok} {kk : Result → Sem Fin} {p : Pos} (i j : Nat) (hF : C.Fn) (hq : C.q = true) (hnc : ∀ x, C.env.cells.lookup x = none) (hPr : Pr C.env.locals) (hPe : Pr e) (hPi : Pr it) (hei : e ≠ it)
    (hbe : hb.get? e = none) (hbi : hb.get? it = none) (hi : C.vars[i]? = some x) (hj : C.vars[j]? = some y) (hx : C.env.kindOf x = some .local) (hy : C.env.kindOf y = some .local) (hkk : ∀ f, kk (.ok f) = K f)
    (hA : AOK (C.n + 2) A) (hG : GC C.K C.mg C.mb hb) (hLe : C.env.locals ≠ e) (hLi : C.env.locals ≠ it) (Inv : Nat → Nat → List LV → Prop) (hfl : ∀ j n σ, Inv j n σ → AllFlat σ)
    (step : ∀ (j' n : Nat) (σ : List LV) (s₀ s : Shared) (ch : Nat) (K' : Flow → Sem Fin) (H' : Value → Sem Fin), txt.cps[j']? = some ch → Inv j' n σ → GInv C hb Pr ((σ.set i (.val (.int j'))).set j (.val (.str ⟨#[ch]⟩))) s₀ s → EnumAt e it txt t (j' + 1) s.heap →
      K' .next = .pure (.again (.forLoop (.Tuple [.Name x px, .Name y py] k tp) (.ref e) body [] C.env)) →
      (∀ (n' : Nat) (σ' : List LV) (s₀' s' : Shared), Inv (j' + 1) n' σ' → GInv C hb Pr σ' s₀' s' → EnumAt e it txt t (j' + 1) s'.heap →
        Seg (model C.prog C.w) A R Y n' s₀' (.forLoop (.Tuple [.Name x px, .Name y py] k tp) (.ref e) body [] C.env) (K' .next) [.ret kk none false [] (.func fbody C.env) p []] s') →
      Seg (model C.prog C.w) A R Y n s₀ (.forLoop (.Tuple [.Name x px, .Name y py] k tp) (.ref e) body [] C.env) ((execs body C.env).wrap K' H' id id) [.ret kk none false [] (.func fbody C.env) p []] s)
    (fin : ∀ (n : Nat) (σ : List LV) (s₀ s : Shared), Inv txt.cps.size n σ → GInv C hb Pr σ s₀ s → Seg (model C.prog C.w) A R Y n s₀ (.func fbody C.env) (K .next) [] s) :
    ∀ (m j' : Nat), m + j' = txt.cps.size → ∀ (n : Nat) (σ : List LV) (s₀ s : Shared), Inv j' n σ → GInv C hb Pr σ s₀ s → EnumAt e it txt t j' s.heap →
      Seg (model C.prog C.w) A R Y n s₀ (.forLoop (.Tuple [.Name x px, .Name y py] k tp) (.ref e) body [] C.env) ((model C.prog C.w).den (.forLoop (.Tuple [.Name x px, .Name y py] k tp) (.ref e) body [] C.env)) [.ret kk none false [] (.func fbody C.env) p []] s := by
  have hAl : AOK C.n (A.over (.forLoop (.Tuple [.Name x px, .Name y py] k tp) (.ref e) body [] C.env) [.ret kk none false [] (.func fbody C.env) p []]) := AOK.over_loop hA
  have W := WalksT.enumerateD (draws_str (prog := C.prog) (w := C.w) (A := (A.over (.forLoop (.Tuple [.Name x px, .Name y py] k tp) (.ref e) body [] C.env) [.ret kk none false [] (.func fbody C.env) p []]).in1) hAl.handled it txt t) e hei (by simpa using hei) (by simp)
  have fld : ∀ {j' : Nat} {h : Heap}, EnumAt e it txt t j' h → ∀ b ∈ [e, it], Fielded h b := fun {j'} {h} st b hbm => by
    obtain ⟨⟨old, a⟩, ⟨o, b', _, hd⟩⟩ := st
    simp at hbm
    rcases hbm with rfl | rfl
    · exact ⟨_, _, a, rfl⟩
    · exact ⟨o, _, b', hd⟩
  have nob : ∀ b ∈ [e, it], hb.get? b = none := fun b hbm => by simp at hbm; rcases hbm with rfl | rfl <;> assumption
  have prb : ∀ b ∈ [e, it], Pr b := fun b hbm => by simp at hbm; rcases hbm with rfl | rfl <;> assumption
  intro m
  induction m with
  | zero =>
    intro j' hj' n σ s₀ s hinv I st
    have hjs : j' = txt.cps.size := by omega
    subst hjs
    refine seg_forLoop fun E => W.done s _ _ st fun h' tk hk => ?_
    refine seg_leaf (.ok .next) ?_
    rw [hkk]
    exact fin n σ s₀ _ hinv (I.away hF hk (fld st) nob prb)
  | succ m ih =>
    intro j' hj' n σ s₀ s hinv I st
    have hlt : j' < txt.cps.size := by omega
    refine seg_forLoop fun E => W.item j' s _ _ hlt st fun T vals h' tk hP hT hTup hmid hk => ?_
    obtain ⟨tt, xv, ⟨ch, u, hch, rfl⟩, rfl⟩ := hP
    have I₁ : GInv C hb Pr σ s₀ { s with heap := h', toks := tk } := I.away hF hk (fld st) nob prb
    intro E₁
    have ap := W.apart _ _ _ hmid
    have hmidF : ∀ b ∈ [e, it], Fielded h' b := fun b hbm => by
      obtain ⟨⟨xx, ho⟩, ⟨o, hso, _, hd⟩, _, _⟩ := hmid
      simp at hbm
      rcases hbm with rfl | rfl
      · exact ⟨_, _, ho, rfl⟩
      · exact ⟨o, _, hso, hd⟩
    refine W.go _ _ _ j' T _ _ _ hmid fun h₂ st₂ hk₂ => ?_
    have I₂ : GInv C hb Pr σ s₀ { s with heap := h₂, toks := tk } := I₁.away hF hk₂ hmidF nob prb
    have hT₂ : h₂.IsTuple T #[.int j' tt, .str ⟨#[ch]⟩ u] := by
      obtain ⟨o, ho, r⟩ := hTup
      exact ⟨o, hk₂ _ _ ap ho, r⟩
    intro E₂
    refine wpAny_assign_Tuple hAl.handled hT₂ rfl rfl fun h₃ hx₃ => ?_
    have hk₃ : ∀ b o, h₂.get? b = some o → h₃.get? b = some o := fun b o e => hx₃ b o (Nat.ne_of_lt (Heap.lt_size e)) e
    have I₃ : GInv C hb Pr σ s₀ { s with heap := h₃, toks := tk } := I₂.ext (Ext.mk' hk₃)
    have st₃ : EnumAt e it txt t (j' + 1) h₃ := EnumAt.frame st₂ (fun o e' => hk₃ _ _ e') (fun o e' => hk₃ _ _ e')
    have f₀ := hfl _ _ _ hinv
    have f₁ : AllFlat (σ.set i (.val (.int j'))) := f₀.set rfl
    refine assignInOrder_cons (wpAny_assign_Name (g_store (s := { s with heap := h₃, toks := tk }) (d := .int j') i hF hnc hPr f₀ hi hx I₃ rd_int fun h₄ tk₄ kp₄ I₄ => ?_))
    refine assignInOrder_cons (wpAny_assign_Name (g_store (s := { s with heap := h₄, toks := tk₄ }) (d := .str ⟨#[ch]⟩) j hF hnc hPr f₁ hj hy I₄ rd_str fun h₅ tk₅ kp₅ I₅ => ?_))
    refine assignInOrder_nil ?_
    have st₅ : EnumAt e it txt t (j' + 1) h₅ := EnumAt.frame (EnumAt.frame st₃ (fun o e' => kp₄ _ _ (Ne.symm hLe) e') (fun o e' => kp₄ _ _ (Ne.symm hLi) e')) (fun o e' => kp₅ _ _ (Ne.symm hLe) e') (fun o e' => kp₅ _ _ (Ne.symm hLi) e')
    intro K' H' hK'
    refine step j' n σ s₀ _ ch K' H' hch hinv I₅ st₅ hK' fun n' σ' s₀' s' hinv' I' st' => ?_
    rw [hK']
    exact seg_again rfl (ih (j' + 1) (by omega) n' σ' s₀' s' hinv' I' st')

theorem g_enum {x y z : PySem.Str} {px py tp zp cp np pos : Pos} {k : Nat} {body : List Stmt} {txt : PySem.Str} (i j iz : Nat) (hF : C.Fn) (hq : C.q = true) (hnc : ∀ x, C.env.cells.lookup x = none) (hPr : Pr C.env.locals) (hnew : ∀ h' : Heap, (∀ b o, s.heap.get? b = some o → h'.get? b = some o) → ∀ b, h'.objs.size ≤ b → Pr b)
    (hi : C.vars[i]? = some x) (hj : C.vars[j]? = some y) (hz : C.vars[iz]? = some z) (hx : C.env.kindOf x = some .local) (hy : C.env.kindOf y = some .local) (hen : C.env.kindOf "enumerate" = some .globalImplicit) (hm : nsIn C.K mainGlobals "enumerate" = some none)
    (hv : σ[iz]? = some (.val (.str txt))) (hA : AOK (C.n + 2) A) (hG : GC C.K C.mg C.mb hb) (I : GInv C hb Pr σ s₀ s) (Inv : Nat → Nat → List LV → Prop) (hfl : ∀ j n σ, Inv j n σ → AllFlat σ) (h0 : Inv 0 n σ)
    (step : ∀ (c' : Code) (fs : List Frame) (St : Heap → Prop) (j' n : Nat) (σ : List LV) (s₀ s : Shared) (ch : Nat) (K' : Flow → Sem Fin) (H' : Value → Sem Fin), splitAtGen fs = none → fs.any Frame.guarded = false → AOK C.n (A.over c' fs) → (∀ h h', St h → (∀ b o, Pr b → b ≠ C.env.locals → h.get? b = some o → h'.get? b = some o) → St h') →
      txt.cps[j']? = some ch → Inv j' n σ → GInv C hb Pr ((σ.set i (.val (.int j'))).set j (.val (.str ⟨#[ch]⟩))) s₀ s → St s.heap →
      (∀ (n' : Nat) (σ' : List LV) (s₀' s' : Shared), Inv (j' + 1) n' σ' → GInv C hb Pr σ' s₀' s' → St s'.heap → Seg (model C.prog C.w) A R Y n' s₀' c' (K' .next) fs s') →
      Seg (model C.prog C.w) A R Y n s₀ c' ((execs body C.env).wrap K' H' id id) fs s)
    (fin : ∀ (n : Nat) (σ : List LV) (s₀ s : Shared), Inv txt.cps.size n σ → GInv C hb Pr σ s₀ s → Seg (model C.prog C.w) A R Y n s₀ (.func fbody C.env) (K .next) [] s)
    (hs : ∀ v, foldedSetIterable (.Call (.Name "enumerate" np) [.Name z zp] [] cp) C.env v = pure v := by intro _; rfl) (hd : (z == ("__debug__" : PySem.Str)) = false := by decide +kernel) (hn : (z == ("__classdict__" : PySem.Str)) = false := by decide +kernel) :
    Seg (model C.prog C.w) A R Y n s₀ (.func fbody C.env) ((exec (.For (.Tuple [.Name x px, .Name y py] k tp) (.Call (.Name "enumerate" np) [.Name z zp] [] cp) body [] pos) C.env).wrap K H id id) [] s := by
  have hA0 : AOK C.n (A.over (.func fbody C.env) []) := AOK.over_func hA
  refine seg_For hs fun E => ?_
  refine wpAny_Call_NameR (wp_builtin hF.toOk hen (hG.keeps I.rel.keep) hm (by decide +kernel : bootBuiltins "enumerate" = some (.type "enumerate")) ?_)
  have ht : backTo cp (starEach [.Name z zp] C.env) = [(false, eval (.Name z zp) C.env)] := rfl
  rw [ht]
  refine PySem.callWith_type rfl (evalArgs_plain (spliced_cons ((se_name iz hz hv hF.toOk hd hn).t.run _ hb s _ _ hA0 hG I.rel fun v s₁ x₁ r₁ => spliced_nil ?_)))
  obtain ⟨t, rfl⟩ := rt_str r₁
  rw [hq] at x₁
  refine call_enumerate_str fun h' hen' hst hsz hk => ?_
  refine wpAny_pyIter_enum hen' ?_
  intro kk p hkk
  have I₁ : GInv C hb Pr σ s₀ { s₁ with heap := h' } := (I.ext x₁).ext ⟨hk, rfl, rfl, rfl⟩
  have nob : ∀ b, s₁.heap.objs.size ≤ b → hb.get? b = none := fun b hbs => by
    cases e : hb.get? b with
    | none => rfl
    | some o => exact absurd (Heap.lt_size ((I.ext x₁).rel.keep b o e)) (Nat.not_lt.mpr hbs)
  have hL : C.env.locals < s₁.heap.objs.size := by
    obtain ⟨m, o, es, ep, ho, _⟩ := (I.ext x₁).rel.ns
    exact Heap.lt_size ho
  refine g_enum_loop i j hF hq hnc hPr (hnew _ x₁.keep _ (Nat.le_succ _)) (hnew _ x₁.keep _ (Nat.le_refl _)) (Nat.succ_ne_self _) (nob _ (Nat.le_succ _)) (nob _ (Nat.le_refl _)) hi hj hx hy hkk hA hG (Nat.ne_of_lt (Nat.lt_succ_of_lt hL)) (Nat.ne_of_lt hL) Inv hfl
    (fun j' n σ s₀ s ch K' H' hch hinv I' st' hK' kont => ?_) fin txt.cps.size 0 rfl n σ s₀ _ h0 I₁ ⟨⟨_, hen'⟩, hst⟩
  refine step _ _ (EnumAt (s₁.heap.objs.size + 1) s₁.heap.objs.size txt t (j' + 1)) j' n σ s₀ s ch K' H' rfl rfl (AOK.over_loop hA) (fun h h' st hkp => ?_) hch hinv I' st' kont
  exact EnumAt.frame st (fun o e => hkp _ _ (hnew _ x₁.keep _ (Nat.le_succ _)) (Nat.ne_of_gt (Nat.lt_succ_of_lt hL)) e) (fun o e => hkp _ _ (hnew _ x₁.keep _ (Nat.le_refl _)) (Nat.ne_of_gt hL) e)
end
end Mine
end

section
namespace Mine
open PySem.Calls PySem.Builtin PySem.Builtin.Str

theorem flat_move {h h' : Heap} {W W' : List Addr} {d : D} {v : Value} (hd : d.flat = true) (r : RD h W d v) : RD h' W' d v := by
  obtain ⟨h1, h2⟩ := rd_flat hd r
  rw [← h2]; exact flat_rd h1
theorem flats_move {h h' : Heap} {W W' : List Addr} : ∀ {xs : List D} {vs : List Value}, (∀ x ∈ xs, x.flat = true) → RDs h W xs vs → RDs h' W' xs vs
  | [], vs, _, r => by rw [r.inv_nil]; exact RDs.nil
  | x :: xs, vs, hf, r => by
    obtain ⟨v, r', rfl, h1, h2⟩ := r.inv_cons
    exact RDs.cons (flat_move (hf x List.mem_cons_self) h1) (flats_move (fun y hy => hf y (List.mem_cons_of_mem _ hy)) h2)

/-- all that a frame stands on lies below N -/
structure Low (env : Env) (N : Nat) (σ : List LV) : Prop where
  flat : ∀ lv ∈ σ, lv = .unset ∨ (∃ d, lv = .val d ∧ d.flat = true) ∨ ∃ a xs, lv = .own a xs ∧ (∀ x ∈ xs, x.flat = true) ∧ a < N
  locals : env.locals < N
  cells : ∀ x c, env.cells.lookup x = some c → c < N
theorem Low.mine {env : Env} {N : Nat} {σ : List LV} (h : Low env N σ) {b : Addr} (hb : Mine' env σ b) : b < N := by
  rcases hb with h1 | rfl | ⟨x, c, hc, rfl⟩
  · obtain ⟨lv, hm, hw⟩ := List.mem_flatMap.mp h1
    rcases h.flat lv hm with rfl | ⟨d, rfl, _⟩ | ⟨a, xs, rfl, _, ha⟩
    · simp [LV.w] at hw
    · simp [LV.w] at hw
    · simp [LV.w] at hw; subst hw; exact ha
  · exact h.locals
  · exact h.cells x _ hc
theorem Rel.low {env : Env} {vars : List PySem.Str} {hb h h' : Heap} {σ : List LV} {N : Nat} (R : Rel env vars hb σ h) (hl : Low env N σ) (hk : ∀ b o, b < N → h.get? b = some o → h'.get? b = some o) (hN : ∀ b o, hb.get? b = some o → b < N) : Rel env vars hb σ h' := by
  have ns : ∀ m, h.Ns env.locals m → h'.Ns env.locals m := fun m hn => hn.at' fun o e => hk _ o hl.locals e
  have lk : ∀ x v, Look env h x v → Look env h' x v := fun x v l => by
    rcases l with ⟨k, m, hn, hm⟩ | ⟨k, c, hc, ⟨o, ho, hd⟩⟩
    · exact .inl ⟨k, m, ns m hn, hm⟩
    · exact .inr ⟨k, c, hc, ⟨o, hk _ o (hl.cells x c hc) ho, hd⟩⟩
  refine ⟨fun b o e => hk b o (hN b o e) (R.keep b o e), let ⟨m, x⟩ := R.ns; ⟨m, ns m x⟩, R.newL, fun x hx => ?_, R.cellsNew, R.apart, fun i x lv h1 h2 => ?_, R.ownNew, R.nd, R.len⟩
  · obtain ⟨c, v, h1, ⟨o, ho, hd⟩⟩ := R.cells x hx
    exact ⟨c, v, h1, ⟨o, hk _ o (hl.cells x c h1) ho, hd⟩⟩
  · have hv := R.vals i x lv h1 h2
    rcases hl.flat lv (List.mem_of_getElem? h2) with rfl | ⟨d, rfl, hd⟩ | ⟨a, xs, rfl, hf, ha⟩
    · trivial
    · obtain ⟨v, l, r⟩ := hv
      exact ⟨v, lk x v l, flat_move hd r⟩
    · obtain ⟨vs, l, ⟨n, hp⟩, r⟩ := hv
      exact ⟨vs, lk x _ l, ⟨n, hk a _ ha hp⟩, flats_move hf r⟩

theorem letGo_gen {prog : Program} {w : World} {A : Around} {s : Shared} {E : Value → Shared → Prop} {elts : List Expr} {x1} {pos : Pos} {a T : Addr} {g : Nat} {Q : Unit → Shared → Prop} (hg : s.heap.IsGen a g) (hQ : Q () s) :
    wpAny (model prog w) A (letOwnedTupleGo (.Tuple elts x1 pos) (.ref a) (.ref T)) Q E s := by
  obtain ⟨o, nm, qn, ho, hc, hd, _⟩ := hg
  unfold letOwnedTupleGo
  refine wpAny_bind (wpAny_load ho ?_)
  rw [hc, hd]
  show wpAny _ A (if (["enumerate", "zip", "dict_itemiterator", "dict_reverseitemiterator", "odict_iterator", "itertools.zip_longest", "itertools.pairwise"].contains "generator" &&
      (#[.int g 0, nm, qn] : Array Value)[0]? == some (rawInt T)) = true then _ else _) Q E s
  rw [if_neg (by
    intro h
    rw [show (["enumerate", "zip", "dict_itemiterator", "dict_reverseitemiterator", "odict_iterator", "itertools.zip_longest", "itertools.pairwise"].contains "generator") = false from by decide, Bool.false_and] at h
    cases h)]
  exact wpAny_pure hQ

/-- what a def with yields gives -/
structure GenOk (B : Base) (n : Nat) (f : Value) (ds : List D) (ys : List (Int × PySem.Str)) : Prop where
  run : ∀ (A : Around) (s : Shared) (Q : Value → Shared → Prop) (E : Value → Shared → Prop) (vals : List Value), AOK n A → GC B.K B.mg B.mb s.heap → RDs s.heap [] ds vals →
    (∀ a h' tk gs, (∀ b o, s.heap.get? b = some o → h'.get? b = some o) → s.heap.objs.size ≤ a → h'.IsGen a s.gens.size → gs.bare = true →
      (∀ (A' : Around) (hb : Heap) (s' : Shared), AOK n A' → GC B.K B.mg B.mb hb → (∀ b o, hb.get? b = some o → s.heap.get? b = some o) → s'.heap = h' →
        gs.Goes (model B.prog B.w) A'.in1 (GR fun b => s.heap.objs.size ≤ b ∧ b ≠ a) (GY (fun b => s.heap.objs.size ≤ b ∧ b ≠ a) hb ys) ys.length (.send .none) s') →
      Q (.ref a) { s with heap := h', toks := tk, gens := s.gens.push gs }) → wpAny (model B.prog B.w) A (call f vals) Q E s

theorem gens_get {G : Array GenState} {gs : GenState} {l : List GenState} : (G ++ (gs :: l).toArray)[G.size]? = some gs := by simp
theorem gens_set {G : Array GenState} {gs gs' : GenState} {l : List GenState} : (G ++ (gs :: l).toArray).setIfInBounds G.size gs' = G ++ (gs' :: l).toArray := by
  apply Array.toList_inj.mp
  simp
theorem gens_push {G : Array GenState} {gs : GenState} : G.push gs = G ++ [gs].toArray := by simp


/-- where the loop over a generator stands -/
structure GAt (C : Cx) (A : Around) (Inv : Nat → List LV → Prop) (ys : List (Int × PySem.Str)) (hb : Heap) (a : Addr) (s₁ : Shared) (n : Nat) (s' : Shared) : Prop where
  st : ∃ kk σ' gs l, n = ys.length - kk ∧ kk ≤ ys.length ∧ Inv kk σ' ∧ Rel C.env C.vars hb σ' s'.heap ∧ s'.heap.IsGen a s₁.gens.size ∧ s'.gens = s₁.gens ++ (gs :: l).toArray ∧ gs.bare = true ∧ (∀ y ∈ l, y.bare = true) ∧ s'.os = s₁.os ∧ s'.drawn = s₁.drawn ∧
    gs.Goes (model C.prog C.w) A.in1 (GR fun b => s₁.heap.objs.size ≤ b ∧ b ≠ a) (GY (fun b => s₁.heap.objs.size ≤ b ∧ b ≠ a) hb ys) (ys.length - kk) (.send .none) (s'.setGen s₁.gens.size .running)
section
variable {C : Cx} {σ : List LV}
theorem s1_forgen {x y f : PySem.Str} {px py tp fp cp pos : Pos} {k : Nat} {e : Expr} {es : List Expr} {ds : List D} {fa : Addr} {o : Obj} {fd : FuncData} {n' : Nat} {ys : List (Int × PySem.Str)} {body : List Stmt} {P : Out → Prop} (i j : Nat) (hF : C.Fn) (hq : C.q = false)
    (hi : C.vars[i]? = some x) (hj : C.vars[j]? = some y) (hx : C.env.kindOf x = some .local) (hy : C.env.kindOf y = some .local) (hf : C.env.kindOf f = some .globalImplicit) (hv : nsIn C.K mainGlobals f = some (some (.ref fa)))
    (hK : C.K.lookup fa = some o) (ho : o.data = .func fd) (he : SEs C σ cp (e :: es) ds) (hgen : GenOk C.b n' (.ref fa) ds ys) (hn : n' ≤ C.n) (Inv : Nat → List LV → Prop) (h0 : Inv 0 σ)
    (hinv : ∀ k σ', Inv k σ' → ∀ lv ∈ σ', lv = .unset ∨ (∃ d, lv = .val d ∧ d.flat = true) ∨ ∃ a xs, lv = .own a xs ∧ (∀ x ∈ xs, x.flat = true) ∧ a ∈ Ws σ)
    (step : ∀ k σ' p ch, ys[k]? = some (p, ch) → Inv k σ' → SS C ((σ'.set i (.val (.int p))).set j (.val (.str ch))) body fun o => match o with | .next σ' => Inv (k + 1) σ' | .cont σ' => Inv (k + 1) σ' | .brk σ' => P (.next σ') | .ret d => P (.ret d))
    (fin : ∀ σ', Inv ys.length σ' → P (.next σ'))
    (hst : ∀ env, (starEach (e :: es) env) = (false, eval e env) :: starEach es env := by intro _; rfl) (hd : (f == ("__debug__" : PySem.Str)) = false := by decide +kernel) (hs : ∀ v, foldedSetIterable (.Call (.Name f fp) (e :: es) [] cp) C.env v = pure v := by intro _; rfl) :
    S1 C σ (.For (.Tuple [.Name x px, .Name y py] k tp) (.Call (.Name f fp) (e :: es) [] cp) body [] pos) P := by
  constructor; intro A h₀ s Q E hA hG hR hQ
  refine wpAny_For (wpAny_Call_NameR (wp_global hF.toOk hf (hG.keeps hR.keep) hv ?_ hd)) hs
  refine callWith_function (o := o) (fd := fd) ?_
  have hst' : backTo cp (starEach (e :: es) C.env) = (false, eval e C.env) :: backTo cp (starEach es C.env) := by rw [hst]; rfl
  rw [hst']
  refine evalArgs_plain ?_
  rw [← hst']
  refine he.run A h₀ s _ _ hA hG hR fun vs s₁ x₁ r₁ => ?_
  have R₁ := hR.ext x₁.keep
  refine ⟨⟨(hG.keeps R₁.keep).k fa o hK, ho⟩, ?_⟩
  refine hgen.run A s₁ _ _ vs (hA.le hn) (hG.keeps R₁.keep) r₁ fun a h' tk gs hk ha hIg hbare hgo => ?_
  refine wpAny_pyIter_gen hIg ?_
  -- the base: all but what the caller may write
  obtain ⟨hb, kb, Rb, kgood, kunder, _, _⟩ := hF.base R₁
  have hGb := hG.keeps kb
  have hN : ∀ b o, hb.get? b = some o → b < s₁.heap.objs.size := fun b o e => Heap.lt_size (kunder b o e)
  have hWs : ∀ a ∈ Ws σ, a < s₁.heap.objs.size := fun a ha => by
    obtain ⟨o, ho⟩ := R₁.ownThere a ha
    exact Heap.lt_size ho
  have hlow : ∀ k σ', Inv k σ' → Low C.env s₁.heap.objs.size σ' := fun k σ' hv => by
    refine ⟨fun lv hm => ?_, ?_, fun y c hc => ?_⟩
    · rcases hinv k σ' hv lv hm with h | h | ⟨a, xs, h1, h2, h3⟩
      · exact .inl h
      · exact .inr (.inl h)
      · exact .inr (.inr ⟨a, xs, h1, h2, hWs a h3⟩)
    · obtain ⟨m, o, es, ep, ho, _⟩ := R₁.ns
      exact Heap.lt_size ho
    · obtain ⟨v, o, ho, _⟩ := hF.cells R₁ y c hc
      exact Heap.lt_size ho
  have hfl : ∀ {k : Nat} {σ' : List LV}, Inv k σ' → ∀ lv ∈ σ', lv = .unset ∨ (∃ d, lv = .val d ∧ d.flat = true) ∨ ∃ a xs, lv = .own a xs ∧ (∀ x ∈ xs, x.flat = true) ∧ a ∈ Ws σ := fun {k} {σ'} h => hinv k σ' h
  refine codeAny_forLoop_any (GAt C A Inv ys hb a s₁) ?_ (ys.length - 0)
    ⟨⟨0, σ, gs, [], rfl, Nat.zero_le _, h0, Rb.ext hk, hIg, gens_push, hbare, (fun y h => nomatch h), rfl, rfl, hgo A hb _ (hA.le hn) hGb kunder rfl⟩⟩
  rintro n s' ⟨⟨kk, σ', gs', l, rfl, hkk, hv', R', hIg', hgens, hbare', hbl, hos, hdr, hgo'⟩⟩
  have low := hlow kk σ' hv'
  have mvq : ∀ (s'' : Shared) (g' : GenState) (l' : List GenState), s''.gens = s₁.gens ++ (g' :: l').toArray → g'.bare = true → (∀ y ∈ l', y.bare = true) → s''.os = s₁.os → s''.drawn = s₁.drawn → Mv C.q s s'' := fun s'' g' l' e1 e2 e3 e4 e5 => by
    refine x₁.mv.trans ⟨?_, e4, e5⟩
    rw [hq]
    exact ⟨g' :: l', e1, fun y hy => (List.mem_cons.mp hy).elim (fun h => h ▸ e2) (e3 y)⟩
  refine gen_next (gs := gs') hA.handled ((hGb.keeps R'.keep).nolimit) (by have := hA.depth; simp [recursionLimit]; omega) hIg' (by rw [hgens]; exact gens_get) hgo' (fun v s₂ gs₂ hb₂ hy₂ => ?_) (fun s₂ hp₂ h₂ hk₂ => ?_)
  · -- a pair
    obtain ⟨T, t, u, p, ch, rfl, hT, hlt, hget, hrun, hkap⟩ := hy₂
    have hkl : kk < ys.length := by
      rcases Nat.lt_or_ge kk ys.length with h | h
      · exact h
      · have e0 : ys.length - kk = 0 := by omega
        have h1 := hkap s₂ (fun _ _ _ e => e) (fun b o e => hrun.keep b o (fun hp => absurd hp.1 (Nat.not_le.mpr (hN b o e))) (R'.keep b o e))
        rw [e0] at h1
        exact h1.elim
    have hget' : ys[kk]? = some (p, ch) := by rw [show ys.length - 1 - (ys.length - kk - 1) = kk by omega] at hget; exact hget
    have hg₂ : (s₂.setGen s₁.gens.size gs₂).gens = s₁.gens ++ (gs₂ :: l).toArray := by
      show s₂.gens.setIfInBounds _ _ = _
      rw [hrun.gens]
      show (s'.gens.setIfInBounds _ _).setIfInBounds _ _ = _
      rw [hgens, gens_set, gens_set]
    have keep₂ : ∀ b o, b < s₁.heap.objs.size → s'.heap.get? b = some o → s₂.heap.get? b = some o := fun b o hlt' e => hrun.keep b o (fun hp => absurd hp.1 (Nat.not_le.mpr hlt')) e
    have R₂ : Rel C.env C.vars hb σ' s₂.heap := R'.low low keep₂ hN
    have hIg₂ : s₂.heap.IsGen a s₁.gens.size := by
      obtain ⟨o, nm, qn, ho, r⟩ := hIg'
      exact ⟨o, nm, qn, hrun.keep a o (fun hp => hp.2 rfl) ho, r⟩
    refine letGo_gen (s := s₂.setGen s₁.gens.size gs₂) hIg₂ ?_
    refine wpAny_assign_Tuple (s := s₂.setGen s₁.gens.size gs₂) hA.handled hT rfl rfl fun h₃ hx₃ => ?_
    have hk₃ : ∀ b o, s₂.heap.get? b = some o → h₃.get? b = some o := fun b o e => hx₃ b o (Nat.ne_of_lt (Heap.lt_size e)) e
    obtain ⟨h₁, k1, R₃, good, _, _, _⟩ := hF.base (R₂.ext hk₃)
    refine assignInOrder_cons (wpAny_assign_Name ?_)
    refine store_val (d := .int p) R₃ hF.kind hF.func hi hF.nd (.inl hx) rd_int fun h₄ tk₄ R₄ => ?_
    refine assignInOrder_cons (wpAny_assign_Name ?_)
    refine store_val (d := .str ch) R₄ hF.kind hF.func hj hF.nd (.inl hy) rd_str fun h₅ tk₅ R₅ => ?_
    refine assignInOrder_nil ?_
    refine (step kk σ' p ch hget' hv').run A h₁ _ _ _ hA (hGb.keeps k1) R₅ fun ff s₆ x₆ e₆ => ?_
    have hx₆ := x₆.gens
    rw [hq] at hx₆
    obtain ⟨l', hl', hbl'⟩ := hx₆
    have hg₆ : s₆.gens = s₁.gens ++ (gs₂ :: (l ++ l')).toArray := by
      rw [hl']
      show (s₂.setGen s₁.gens.size gs₂).gens ++ _ = _
      rw [hg₂]; simp
    have hbl₆ : ∀ y ∈ l ++ l', y.bare = true := fun y hy => (List.mem_append.mp hy).elim (hbl y) (hbl' y)
    have hos₆ : s₆.os = s₁.os := x₆.os.trans (hrun.os.trans hos)
    have hdr₆ : s₆.drawn = s₁.drawn := x₆.drawn.trans (hrun.drawn.trans hdr)
    have kp₆ : ∀ s₇ : Shared, (∀ b o, h₁.get? b = some o → s₇.heap.get? b = some o) → ∀ b o, s₁.heap.objs.size ≤ b → s₂.heap.get? b = some o → s₇.heap.get? b = some o := fun s₇ hk₇ b o hle e => hk₇ b o (good b o (hk₃ b o e) fun hm => absurd (low.mine hm) (Nat.not_lt.mpr hle))
    have next : ∀ σ₆, Inv (kk + 1) σ₆ → Rel C.env C.vars h₁ σ₆ s₆.heap → ∃ m, m < ys.length - kk ∧ GAt C A Inv ys hb a s₁ m s₆ := fun σ₆ h6 R₆ => by
      refine ⟨ys.length - (kk + 1), by omega, ⟨kk + 1, σ₆, gs₂, l ++ l', rfl, hkl, h6, R₆.under k1, ?_, hg₆, hb₂, hbl₆, hos₆, hdr₆, ?_⟩⟩
      · obtain ⟨o, nm, qn, ho, r⟩ := hIg₂
        exact ⟨o, nm, qn, kp₆ s₆ R₆.keep a o ha ho, r⟩
      · have hK := hkap (s₆.setGen s₁.gens.size .running) (fun b o hp e => kp₆ s₆ R₆.keep b o hp.1 e) (fun b o e => R₆.keep b o (k1 b o e))
        revert hK
        generalize hm : ys.length - kk = m
        cases m with
        | zero => omega
        | succ m =>
          intro hK
          rw [show ys.length - (kk + 1) = m by omega]
          exact hK
    have mv₆ : Mv C.q s s₆ := mvq s₆ gs₂ (l ++ l') hg₆ hb₂ hbl₆ hos₆ hdr₆
    cases ff with
    | next =>
      obtain ⟨σ₆, h6, R₆⟩ := e₆
      exact next σ₆ h6 R₆
    | cont =>
      obtain ⟨σ₆, h6, R₆⟩ := e₆
      exact next σ₆ h6 R₆
    | brk =>
      obtain ⟨σ₆, h6, R₆⟩ := e₆
      exact hQ _ _ mv₆ ⟨σ₆, h6, (R₆.under k1).under kb⟩
    | ret v =>
      obtain ⟨d₆, h6, r₆, kp₆'⟩ := e₆
      exact hQ _ _ mv₆ ⟨d₆, h6, r₆, fun b o e => kp₆' b o (k1 b o (kb b o e))⟩
  · -- the end
    obtain ⟨hn0, hrun⟩ := hp₂
    have hkn : kk = ys.length := by omega
    subst hkn
    have hg₂ : (s₂.setGen s₁.gens.size GenState.finished).gens = s₁.gens ++ (GenState.finished :: l).toArray := by
      show s₂.gens.setIfInBounds _ _ = _
      rw [hrun.gens]
      show (s'.gens.setIfInBounds _ _).setIfInBounds _ _ = _
      rw [hgens, gens_set, gens_set]
    have keep₂ : ∀ b o, b < s₁.heap.objs.size → s'.heap.get? b = some o → h₂.get? b = some o := fun b o hlt' e => hk₂ b o (hrun.keep b o (fun hp => absurd hp.1 (Nat.not_le.mpr hlt')) e)
    have R₂ : Rel C.env C.vars hb σ' h₂ := R'.low low keep₂ hN
    refine wpAny_execs_nil (hQ _ _ (mvq _ GenState.finished l hg₂ rfl hbl (hrun.os.trans hos) (hrun.drawn.trans hdr)) ⟨σ', fin σ' hv', R₂.under kb⟩)
end
end Mine
end

section
namespace Mine
open PySem.Calls PySem.Builtin PySem.Builtin.Str

theorem gen_of_body {B : Base} {n : Nat} {a : Addr} {o : Obj} {fd : FuncData} {body : List Stmt} {params locs : List PySem.Str} {ds : List D} {ys : List (Int × PySem.Str)}
    (hK : B.K.lookup a = some o) (ho : o.data = .func fd) (hcode : codeIn B.K fd.code fd.qualname = true) (hbody : fd.body = .stmts body) (hclo : fd.closure = [])
    (hbind : ∀ vals : List Value, vals.length = params.length → bindArgs fd ⟨vals, []⟩ = pure (params.zip vals)) (hlen : ds.length = params.length) (hflat : ∀ d ∈ ds, d.flat = true)
    (hkinds : ∀ p ∈ params, fd.scope.names.lookup p = some .local) (hnc : ∀ L, cellsFrom L fd.scope.names [] = []) (hnk : ∀ p ∈ fd.scope.names, p.2 ≠ .cell)
    (hglob : fd.globals = mainGlobals) (hbui : fd.builtins = builtinsNs) (hnd : (params ++ locs).Nodup) (hdbg : ∀ L, interactive (callEnvC fd L a) = false)
    (h : ∀ L, (B.cx true n (callEnvC fd L a) (params ++ locs)).Fn → ∀ (Pr : Addr → Prop) (A' : Around) (hb : Heap) (s' : Shared) (K : Flow → Sem Fin) (H : Value → Sem Fin), Pr L → (∀ b, s'.heap.objs.size ≤ b → Pr b) → (∃ b o, s'.heap.get? b = some o ∧ ¬ Pr b ∧ ∀ b', b < b' → Pr b') →
      AOK (n + 2) A' → GC B.K B.mg B.mb hb → GInv (B.cx true n (callEnvC fd L a) (params ++ locs)) hb Pr (ds.map LV.val ++ List.replicate locs.length LV.unset) s' s' → AllFlat (ds.map LV.val ++ List.replicate locs.length LV.unset) → K .next = .pure (.done (.ret .none)) →
      Seg (model B.prog B.w) A' (GR Pr) (GY Pr hb ys) ys.length s' (.func body (callEnvC fd L a)) ((execs body (callEnvC fd L a)).wrap K H id id) [] s')
    (hco : fd.scope.isCoroutine = false := by rfl) (hgen : fd.scope.isGenerator = true := by rfl) (hk : fd.scope.kind = .function := by rfl) : GenOk B (n + 3) (.ref a) ds ys := by
  constructor; intro A s Q E vals hA hG hr hQ
  have hvl : vals.length = params.length := by rw [← hr.length, hlen]
  have hpn : params.Nodup := (List.nodup_append.mp hnd).1
  have hzm : (params.zip vals).map (·.1) = params := by rw [List.map_fst_zip]; omega
  refine wpAny_call (codeAny_call_generator (by have := hA.depth; simp [recursionLimit]; omega) (hG.k a o hK) ho hco hgen hbody (codeRec_of hG.k hcode) ?_)
  rw [hbind vals hvl, hclo]
  refine wpAny_pure (wpAny_newFunctionEnv_cells hk (fun x hx => .inl (hkinds _ ?_)) fun env he s₁ hx => ?_)
  · rw [← hzm]; exact List.mem_map_of_mem (f := (·.1)) hx
  have he' : env = callEnvC fd s.heap.objs.size a := he
  subst he'
  have henv : (B.cx true n (callEnvC fd s.heap.objs.size a) (params ++ locs)).Fn := by
    refine ⟨⟨hk, hglob, hbui⟩, (fun e => nomatch e), hnd, fun x c hc => ?_, hdbg _⟩
    rw [show (B.cx true n (callEnvC fd s.heap.objs.size a) (params ++ locs)).env.cells = [] from hnc _] at hc
    cases hc
  have hfl : AllFlat (ds.map LV.val ++ List.replicate locs.length LV.unset) := fun lv hm => by
    rcases List.mem_append.mp hm with h1 | h1
    · obtain ⟨d', hd', rfl⟩ := List.mem_map.mp h1
      exact .inr ⟨d', rfl, hflat d' hd'⟩
    · exact .inl (List.mem_replicate.mp h1).2
  have R : Rel (B.cx true n (callEnvC fd s.heap.objs.size a) (params ++ locs)).env (B.cx true n (callEnvC fd s.heap.objs.size a) (params ++ locs)).vars s.heap (ds.map LV.val ++ List.replicate locs.length LV.unset) s₁.heap := by
    refine ⟨hx.toInCall.keep, ⟨_, hx.toInCall.ns⟩, fresh_none _, fun y hy => ?_, fun _ y c hc => ?_, fun y z c hy hz => ?_, fun i y lv hi hlv => ?_, fun b hb => ?_, ?_, ?_⟩
    · exact absurd rfl (hnk _ (mem_of_lookup hy))
    · rw [show (B.cx true n (callEnvC fd s.heap.objs.size a) (params ++ locs)).env.cells = [] from hnc _] at hc; cases hc
    · rw [show (B.cx true n (callEnvC fd s.heap.objs.size a) (params ++ locs)).env.cells = [] from hnc _] at hy; cases hy
    · by_cases hlt : i < params.length
      · have hip : params[i]? = some y := by rw [← hi]; exact (List.getElem?_append_left hlt).symm
        have hlt' : i < ds.length := by omega
        obtain ⟨d', hd'⟩ : ∃ d', ds[i]? = some d' := ⟨_, List.getElem?_eq_getElem hlt'⟩
        have hlv' : lv = LV.val d' := by
          rw [List.getElem?_append_left (by simpa using hlt'), List.getElem?_map, hd'] at hlv
          simpa using hlv.symm
        subst hlv'
        obtain ⟨v, hv, r⟩ := hr.get hd'
        have hm : (y, v) ∈ params.zip vals := by
          have : (params.zip vals)[i]? = some (y, v) := by rw [List.getElem?_zip_eq_some]; exact ⟨hip, hv⟩
          exact List.mem_of_getElem? this
        have hnz : ((params.zip vals).map (·.1)).Nodup := by rw [hzm]; exact hpn
        have h1 := hkinds y (List.mem_of_getElem? hip)
        exact ⟨v, .inl ⟨h1, _, hx.toInCall.ns, bindL_get _ _ _ _ hnz hm h1⟩, flat_move (hflat d' (List.mem_of_getElem? hd')) r⟩
      · have : lv = LV.unset := by
          rw [List.getElem?_append_right (by simp; omega)] at hlv
          have := List.mem_of_getElem? hlv
          exact (List.mem_replicate.mp this).2
        subst this; trivial
    · rw [hfl.ws] at hb; cases hb
    · rw [hfl.ws]; exact List.nodup_nil
    · simp [Base.cx, hlen]
  obtain ⟨h', tk, rfl⟩ := hx.toInCall.same
  refine ⟨hG.nolimit.keeps hx.toInCall.keep, ?_⟩
  have hLlt : s.heap.objs.size < h'.objs.size := by
    obtain ⟨o, es, ep, ho, _⟩ := hx.toInCall.ns
    exact Heap.lt_size ho
  refine hQ h'.objs.size _ _ _ (fun b o e => Heap.get?_push_of_some _ (hx.toInCall.keep b o e)) (Nat.le_of_lt hLlt) ⟨_, _, _, Heap.get?_push_size _ rfl, rfl, rfl, rfl⟩ rfl fun A' hb s' hA' hGb hsub hs' => ⟨rfl, ?_⟩
  have R' : Rel (B.cx true n (callEnvC fd s.heap.objs.size a) (params ++ locs)).env (B.cx true n (callEnvC fd s.heap.objs.size a) (params ++ locs)).vars hb (ds.map LV.val ++ List.replicate locs.length LV.unset) s'.heap := by
    rw [hs']
    exact (R.under hsub).ext fun b o e => Heap.get?_push_of_some _ e
  have hsz : s'.heap.objs.size = h'.objs.size + 1 := by rw [hs']; exact Heap.size_push ..
  refine seg_func (h _ henv _ _ hb s' _ _ ⟨Nat.le_refl _, Nat.ne_of_lt hLlt⟩ (fun b hle => (show s.heap.objs.size ≤ b ∧ b ≠ h'.objs.size from ⟨by omega, by omega⟩)) ⟨h'.objs.size, _, by rw [hs']; exact Heap.get?_push_size _ rfl, (fun hp => hp.2 rfl), fun b' hb' => (show s.heap.objs.size ≤ b' ∧ b' ≠ h'.objs.size from ⟨Nat.le_trans (Nat.le_of_lt hLlt) (Nat.le_of_lt hb'), Nat.ne_of_gt hb'⟩)⟩ hA'.in1 hGb ⟨R', GRun.refl ..⟩ hfl rfl)
end Mine
end

section
set_option maxRecDepth 100000
namespace Mine
open PySem.Calls PySem.Builtin PySem.Builtin.Str

section
variable {prog : Program} {w : World} {A : Around} {s : Shared} {E : Value → Shared → Prop}
theorem call_iter_list {l : Addr} {items : Array Value} {Q : Value → Shared → Prop} (hl : s.heap.IsList l items) (h : Q (.ref s.heap.objs.size) { s with heap := s.heap.push { cls := .type "list_iterator", data := .fields #[.ref l, .int 0 0] } }) :
    wpAny (model prog w) A (call (.builtin "iter") [.ref l]) Q E s := by
  refine call_function_entry (by decide +kernel) (by decide +kernel) kdk_entry_iter (kdk_args_iter _) ?_
  unfold Builtin.«iter»
  refine wpAny_bind (m := someArgs "iter" 1 2 _) (wpAny_of_eq (a := [Value.ref l]) (by first | rfl | kernel_rfl!) ?_)
  show wpAny _ _ (pyIter (.ref l) >>= _) _ _ _
  refine wpAny_bind (wpAny_pyIter_list hl ?_)
  exact wpAny_pure ⟨_, rfl, h⟩
theorem call_next_list {it l : Addr} {i : Nat} {items : Array Value} {x : Value} {Q : Value → Shared → Prop} (hit : s.heap.IsListIter it l i) (hl : s.heap.IsList l items) (hx : items[i]? = some x)
    (hQ : ∀ h', h'.IsListIter it l (i + 1) → Heap.SameBut it s.heap h' → Q x { s with heap := h' }) : wpAny (model prog w) A (call (.builtin "next") [.ref it]) Q E s := by
  refine call_function_entry (by decide +kernel) (by decide +kernel) kdk_entry_next (kdk_args_next _) ?_
  unfold Builtin.«next»
  refine wpAny_bind (m := someArgs "next" 1 2 _) (wpAny_of_eq (a := [Value.ref it]) (by first | rfl | kernel_rfl!) ?_)
  dsimp only
  refine wpAny_bind (wpAny_specialOf (name := Str.ofString "__next__") hit.typeIs slot_listiter_next.lookup ?_)
  refine wpAny_ite_split (fun hab => absurd hab (by decide)) (fun _ => ?_)
  obtain ⟨o, ho, hc, hd⟩ := id hit
  obtain ⟨ol, hol, _, nl, hdl⟩ := hl
  refine wpAny_bind (wpAny_callSpecial?_slot (name := Str.ofString "__next__") hit.typeIs slot_listiter_next
    (wpAny_call_entry slot_listiter_next hit.typeIs entry_listiter_next ?_ (args_listiter_next _)))
  show wpAny _ _ (field (.ref it) 0 >>= _) _ _ s
  refine wpAny_bind (wpAny_field ho hd (x := .ref l) rfl ?_)
  show wpAny _ _ (if (Value.ref l == Value.none) = true then _ else _) _ _ s
  rw [if_neg (show ¬ ((Value.ref l == Value.none) = true) from Bool.false_ne_true)]
  show wpAny _ _ (field (.ref it) 1 >>= _) _ _ s
  refine wpAny_bind (wpAny_field ho hd (x := .int i 0) rfl ?_)
  show wpAny _ _ (seqItems? (.ref l) >>= _) _ _ s
  refine wpAny_bind (wpAny_seqItems hol hdl ?_)
  simp only [Int.toNat_natCast, hx]
  refine wpAny_bind (wpAny_setField ho hd (by simp) (wpAny_pure ⟨x, rfl, wpAny_pure ⟨_, rfl, hQ _ ?_ (Heap.SameBut.update ..)⟩⟩))
  exact ⟨_, Heap.get?_update_self _ ho (Obj.isFreed_of_fields (Obj.data_mapFields hd _)), (Obj.cls_mapFields ..).trans hc, by
    rw [Obj.data_mapFields hd]; simp [rawInt]⟩
end

section
variable {C : Cx} {σ : List LV} {A : Around} {hb : Heap} {s : Shared} {E : Value → Shared → Prop}
theorem s_keep {st : Stmt} {σ' : List LV} {Q : Flow → Shared → Prop} (hF : C.Fn) (S : S1 C σ st fun o => o = .next σ') (hA : AOK C.n A) (hG : GC C.K C.mg C.mb hb) (R : Rel C.env C.vars hb σ s.heap)
    (k : ∀ s', Mv C.q s s' → (∀ b o, ¬ Mine' C.env σ b → s.heap.get? b = some o → s'.heap.get? b = some o) → Rel C.env C.vars hb σ' s'.heap → Q .next s') : wpAny (model C.prog C.w) A (exec st C.env) Q E s := by
  obtain ⟨h₁, k1, R₁, good, _, _⟩ := R.rebase hF.func
  refine S.run A h₁ s _ E hA (hG.keeps k1) R₁ fun f s' x e => ?_
  cases f with
  | next =>
    obtain ⟨σ₁, h1, R'⟩ := e
    cases h1
    exact k s' x (fun b o hm e => R'.keep b o (good b o e hm)) (R'.under k1)
  | brk => obtain ⟨_, h1, _⟩ := e; cases h1
  | cont => obtain ⟨_, h1, _⟩ := e; cases h1
  | ret v => obtain ⟨_, h1, _⟩ := e; cases h1

/-- where the walk over the octets stands -/
structure It (hb h : Heap) (I l : Addr) (i : Nat) (items : List Int) : Prop where
  iter : h.IsListIter I l i
  list : ∃ vs, hb.IsList l vs.toArray ∧ RDs hb [] (items.map .int) vs
  new : hb.get? I = none
theorem It.keep {hb h h' : Heap} {I l : Addr} {i : Nat} {items : List Int} (t : It hb h I l i items) (hk : ∀ o, h.get? I = some o → h'.get? I = some o) : It hb h' I l i items := ⟨t.iter.at hk, t.list, t.new⟩
theorem It.fielded {hb h : Heap} {I l : Addr} {i : Nat} {items : List Int} (t : It hb h I l i items) : Fielded h I := by
  obtain ⟨o, ho, _, hd⟩ := t.iter
  exact ⟨o, _, ho, hd⟩
/-- a statement that leaves the walk alone -/
theorem i_stmt {st : Stmt} {σ' : List LV} {Q : Flow → Shared → Prop} {I l : Addr} {i : Nat} {items : List Int} (hF : C.Fn) (S : S1 C σ st fun o => o = .next σ') (hA : AOK C.n A) (hG : GC C.K C.mg C.mb hb) (R : Rel C.env C.vars hb σ s.heap) (t : It hb s.heap I l i items)
    (k : ∀ s', Mv C.q s s' → (∀ b o, ¬ Mine' C.env σ b → s.heap.get? b = some o → s'.heap.get? b = some o) → Rel C.env C.vars hb σ' s'.heap → It hb s'.heap I l i items → Q .next s') : wpAny (model C.prog C.w) A (exec st C.env) Q E s :=
  s_keep hF S hA hG R fun s' mv kp R' => k s' mv kp R' (t.keep fun o e => kp I o (hF.fielded R t.fielded) e)
/-- next(it): the next one, and the walk one on -/
theorem i_next {z : PySem.Str} {np zp cp : Pos} {Q : Value → Shared → Prop} {I l : Addr} {i : Nat} {items : List Int} {x : Int} (iz : Nat) (hF : C.Fn) (hz : C.vars[iz]? = some z) (hnx : C.env.kindOf "next" = some .globalImplicit) (hm : nsIn C.K mainGlobals "next" = some none)
    (hv : σ[iz]? = some (.val (.thing (.ref I)))) (hA : AOK C.n A) (hG : GC C.K C.mg C.mb hb) (R : Rel C.env C.vars hb σ s.heap) (t : It hb s.heap I l i items) (hx : items[i]? = some x)
    (k : ∀ h' tk v, (∀ b o, b ≠ I → s.heap.get? b = some o → h'.get? b = some o) → Rel C.env C.vars hb σ h' → It hb h' I l (i + 1) items → RD h' (Ws σ) (.int x) v → Q v { s with heap := h', toks := tk })
    (hd : (z == ("__debug__" : PySem.Str)) = false := by decide +kernel) (hn : (z == ("__classdict__" : PySem.Str)) = false := by decide +kernel) :
    wpAny (model C.prog C.w) A (eval (.Call (.Name "next" np) [.Name z zp] [] cp) C.env) Q E s := by
  refine wpAny_Call_NameR (wp_builtin hF.toOk hnx (hG.keeps R.keep) hm boot_next ?_)
  have ht : backTo cp (starEach [.Name z zp] C.env) = [(false, eval (.Name z zp) C.env)] := rfl
  rw [ht]
  refine callWith_builtin rfl (evalArgs_plain (spliced_cons ?_))
  obtain ⟨v, lk, r⟩ := R.vals iz z _ hz hv
  refine wpAny_Name (look_wp hF.kind lk (spliced_nil ?_) hn) hd
  have hve : v = .ref I := by unfold RD at r; exact r
  subst hve
  obtain ⟨vs, hl, hvs⟩ := t.list
  obtain ⟨v, hvi, hrd⟩ := hvs.get (show (items.map D.int)[i]? = some (.int x) by simp [hx])
  obtain ⟨tk, rfl⟩ := rd_int_inv hrd
  refine call_next_list t.iter (isList_keep R.keep hl) (by simpa using hvi) fun h' hit hs => ?_
  have hk : ∀ b o, b ∉ [I] → s.heap.get? b = some o → h'.get? b = some o := fun b o hbm e => hs.extBut b o (by simpa using hbm) e
  exact k h' s.toks _ (fun b o hbI e => hk b o (by simpa using hbI) e) (R.away hk (fun b hbm => by simp at hbm; subst hbm; exact t.fielded) (fun b hbm => by simp at hbm; subst hbm; exact t.new)) ⟨hit, t.list, t.new⟩ rd_int
end
end Mine
end

section
namespace Mine
open PySem.Calls PySem.Builtin PySem.Builtin.Str

end Mine
end

section
set_option maxRecDepth 100000
namespace Mine
open PySem.Calls PySem.Builtin PySem.Builtin.Str

noncomputable def BOk (B : Base) : Prop := B.K = hd.heap_39 B.w.params
noncomputable def dInts (ws : List Int) : D := .list (ws.map .int)
noncomputable def gi (ws : List Int) (k : Int) : Int := ws.getD k.toNat 0
theorem gi_get {ws : List Int} {k : Int} (h0 : 0 ≤ k) (h1 : k < ws.length) : (ws.map D.int)[k.toNat]? = some (.int (gi ws k)) := by
  have : k.toNat < ws.length := by omega
  simp [gi, this]

noncomputable def iabs (a : Int) : Int := if a < 0 then -a else a
noncomputable def wholeIn (ws : List Int) (j : Nat) (a : Int) : Nat → Int
  | 0 => a
  | i + 1 => wholeIn ws j a i * iabs (gi ws i - gi ws j)
noncomputable def wholeOut (ws : List Int) : Nat → Int
  | 0 => 1
  | j + 1 => wholeIn ws j (wholeOut ws j) j

theorem intsFrom_inv {a : Int} {n k : Nat} {d : D} (h : (intsFrom a n)[k]? = some d) : k < n ∧ d = .int (a + k) := by
  have hk : k < n := by
    rcases Nat.lt_or_ge k n with h1 | h1
    · exact h1
    · rw [List.getElem?_eq_none (by rw [intsFrom_len]; exact h1)] at h; cases h
  rw [intsFrom_get hk] at h
  exact ⟨hk, by simpa using h.symm⟩
theorem intsFrom0_inv {n : Int} {k : Nat} {d : D} (h : (intsFrom 0 (n - 0).toNat)[k]? = some d) : (k : Int) < n ∧ d = .int k := by
  obtain ⟨h1, h2⟩ := intsFrom_inv h
  exact ⟨by omega, by rw [h2, Int.zero_add]⟩
theorem mul_ok_right {a b : Int} (h1 : -1000000000 < b) (h2 : b < 1000000000) : IntMulOk a b := .of_right (intBits_le_64 (by omega) (by omega))
theorem mem_gi {ws : List Int} {k : Int} (h0 : 0 ≤ k) (h1 : k < ws.length) : gi ws k ∈ ws := by
  have : k.toNat < ws.length := by omega
  unfold gi
  rw [List.getD_eq_getElem?_getD, List.getElem?_eq_getElem this]
  exact List.getElem_mem this
section
variable {B : Base} (hB : BOk B)
include hB
theorem k_range : nsIn B.K mainGlobals "range" = some none := by rw [hB]; rfl
theorem k_len : nsIn B.K mainGlobals "len" = some none := by rw [hB]; rfl
theorem k_abs : nsIn B.K mainGlobals "abs" = some none := by rw [hB]; rfl
theorem k_chr : nsIn B.K mainGlobals "chr" = some none := by rw [hB]; rfl
theorem k_ord : nsIn B.K mainGlobals "ord" = some none := by rw [hB]; rfl
theorem k_hex : nsIn B.K mainGlobals "hex" = some none := by rw [hB]; rfl
theorem k_iter : nsIn B.K mainGlobals "iter" = some none := by rw [hB]; rfl
theorem k_next : nsIn B.K mainGlobals "next" = some none := by rw [hB]; rfl
theorem k_enumerate : nsIn B.K mainGlobals "enumerate" = some none := by rw [hB]; rfl
end

theorem whole_ok (B : Base) (hB : BOk B) (ws : List Int) (hl : ws.length = 5) (hb : ∀ w ∈ ws, 0 ≤ w ∧ w < 5000) : FnOk B true 2 (.ref 105) [dInts ws] (.int (wholeOut ws 5)) := by
  refine fn_of_body (params := ["worths"]) (locs := ["whole", "j", "i"]) (by rw [hB]; rfl) rfl (by rw [hB]; rfl) rfl rfl (fun vals hv => ?_) rfl (by decide +kernel) (by decide +kernel) rfl rfl (by decide +kernel) (fun L => rfl) fun L hF => ?_
  · exact len1 (P := fun vals => bindArgs _ ⟨vals, []⟩ = pure (List.zip _ vals)) (fun _ => rfl) vals hv
  · refine ss_cons (s1_assign 1 hF rfl (.inl rfl) se_int ?_ rfl)
    refine ss_cons (s1_for 2 hF rfl (.inl rfl) (si_range1 hF.toOk rfl (k_range hB) se_int.t (by decide)) (fun k σ => ∃ y z, σ = [.val (dInts ws), .val (.int (wholeOut ws k)), y, z]) ⟨_, _, rfl⟩ ?_ ?_ (by intro _; rfl))
    · rintro j σ d hd ⟨y, z, rfl⟩
      obtain ⟨hj, rfl⟩ := intsFrom0_inv hd
      refine ss_cons (s1_for 3 hF rfl (.inl rfl) (si_range1 hF.toOk rfl (k_range hB) (se_name 2 rfl rfl hF.toOk).t (by omega)) (fun k σ => ∃ z, σ = [.val (dInts ws), .val (.int (wholeIn ws j (wholeOut ws j) k)), .val (.int j), z]) ⟨_, rfl⟩ ?_ ?_ (by intro _; rfl))
      · rintro i σ d hd ⟨z, rfl⟩
        obtain ⟨hi, rfl⟩ := intsFrom0_inv hd
        refine ss_cons (s1_assign 1 hF rfl (.inl rfl) (se_bin (op_mul ?_) (se_name 1 rfl rfl hF.toOk).t (se_callB hF.toOk rfl (k_abs hB) (by decide +kernel) (ses_cons (se_bin op_sub
          (se_item (se_name 0 rfl rfl hF.toOk).t (se_name 3 rfl rfl hF.toOk).t (by omega) (gi_get (by omega) (by omega)) (by omega)).t (se_item (se_name 0 rfl rfl hF.toOk).t (se_name 2 rfl rfl hF.toOk).t (by omega) (gi_get (by omega) (by omega)) (by omega)).t).t ses_nil) bn_abs).t) (ss_nil ⟨_, rfl⟩) rfl)
        have h1 := hb _ (mem_gi (ws := ws) (k := i) (by omega) (by omega))
        have h2 := hb _ (mem_gi (ws := ws) (k := j) (by omega) (by omega))
        exact mul_ok_right (by split <;> omega) (by split <;> omega)
      · rintro σ ⟨z, rfl⟩
        rw [intsFrom_len, show ((j : Int) - 0).toNat = j by omega]
        exact ss_nil (ss_nil ⟨_, _, rfl⟩)
    · rintro σ ⟨y, z, rfl⟩
      exact ss_nil (ss_cons (s1_return (se_name 1 rfl rfl hF.toOk).t rfl))
end Mine
end

section
set_option maxRecDepth 100000
namespace Mine
open PySem.Calls PySem.Builtin PySem.Builtin.Str

noncomputable def listedOf : Nat → PySem.Str
  | 0 => "OPTIMIZED" | 1 => "NEWLOCALS" | 2 => "VARARGS" | 3 => "VARKEYWORDS" | 4 => "NESTED" | 5 => "GENERATOR" | 6 => "NOFREE"
  | 7 => "COROUTINE" | 8 => "ITERABLE_COROUTINE" | 9 => "ASYNC_GENERATOR" | 10 => "0x400" | _ => "0x800"
noncomputable def flagEntries : Array DictEntry :=
  #[⟨1, .int 1 189, .str "OPTIMIZED" 190⟩, ⟨2, .int 2 191, .str "NEWLOCALS" 192⟩, ⟨4, .int 4 193, .str "VARARGS" 194⟩, ⟨8, .int 8 195, .str "VARKEYWORDS" 196⟩, ⟨16, .int 16 197, .str "NESTED" 198⟩,
    ⟨32, .int 32 199, .str "GENERATOR" 200⟩, ⟨64, .int 64 201, .str "NOFREE" 202⟩, ⟨128, .int 128 203, .str "COROUTINE" 204⟩, ⟨256, .int 256 205, .str "ITERABLE_COROUTINE" 206⟩, ⟨512, .int 512 207, .str "ASYNC_GENERATOR" 208⟩]
theorem k_flags {B : Base} (hB : BOk B) : B.K.lookup 15 = some { cls := .type "dict", data := .dict flagEntries 10 } := by rw [hB]; rfl
theorem kn_flags {B : Base} (hB : BOk B) : nsIn B.K mainGlobals "COMPILER_FLAG_NAMES" = some (some (.ref 15)) := by rw [hB]; rfl
theorem flag_get : ∀ (m : Nat), m < 12 → ∀ t, ∃ t', (findBy Value.isInt flagEntries (1 * 2 ^ m)).getD (.str (baseText "0x" 16 (1 * 2 ^ m)) t) = .str (listedOf m) t'
  | 0, _, t => ⟨_, rfl⟩ | 1, _, t => ⟨_, rfl⟩ | 2, _, t => ⟨_, rfl⟩ | 3, _, t => ⟨_, rfl⟩ | 4, _, t => ⟨_, rfl⟩ | 5, _, t => ⟨_, rfl⟩ | 6, _, t => ⟨_, rfl⟩
  | 7, _, t => ⟨_, rfl⟩ | 8, _, t => ⟨_, rfl⟩ | 9, _, t => ⟨_, rfl⟩
  | 10, _, t => ⟨t, by rw [show (findBy Value.isInt flagEntries (1 * 2 ^ 10)) = none by rfl, Option.getD_none, show baseText "0x" 16 (1 * 2 ^ 10) = listedOf 10 by decide +kernel]⟩
  | 11, _, t => ⟨t, by rw [show (findBy Value.isInt flagEntries (1 * 2 ^ 11)) = none by rfl, Option.getD_none, show baseText "0x" 16 (1 * 2 ^ 11) = listedOf 11 by decide +kernel]⟩
  | n + 12, h, t => absurd h (by omega)

theorem bn_hex {C : Cx} {a : Int} (hsz : (baseText "0x" 16 a).length ≤ 1000) : BN C "hex" [.int a] (.str (baseText "0x" 16 a)) := by
  constructor; intro A s W vs Q E hA hG hW r hQ
  obtain ⟨v, rfl, r1⟩ := r.one_inv
  obtain ⟨t, rfl⟩ := rd_int_inv r1
  exact P.hex_of_int (hQ _ _ Ext.toks rd_str) (Nat.le_trans hsz (by decide))
theorem hex_short : ∀ m, m < 12 → (baseText "0x" 16 (1 * 2 ^ m)).length ≤ 1000 := by decide +kernel
theorem flag_keys (prog : Program) (w : World) : KeysOf (intKind prog w) flagEntries := by
  intro e he
  simp only [flagEntries, List.mem_toArray, List.mem_cons, List.not_mem_nil, or_false] at he
  rcases he with rfl | rfl | rfl | rfl | rfl | rfl | rfl | rfl | rfl | rfl <;> exact ⟨_, by simp [intKind, Value.isInt]; rfl, by rfl⟩

theorem se_flag_get {B : Base} (hB : BOk B) {q : Bool} {n : Nat} {env : Env} {vars : List PySem.Str} {σ : List LV} {e₁ e₂ : Expr} {p apos pos : Pos} {m : Nat} (hm : m < 12) (hk : (B.cx q n env vars).Ok) (hx : env.kindOf "COMPILER_FLAG_NAMES" = some .globalImplicit)
    (h1 : SE (B.cx q n env vars) σ e₁ (.int (1 * 2 ^ m))) (h2 : SE (B.cx q n env vars) σ e₂ (.str (baseText "0x" 16 (1 * 2 ^ m))))
    (hst : ∀ env, (starEach [e₁, e₂] env) = [(false, eval e₁ env), (false, eval e₂ env)] := by intro _; rfl)
    (hfew : ∀ env, ((backTo pos (starEach [e₁, e₂] env)).all (fun x => !x.1) && (backToKw pos (keywordEach [] env)).all (fun x => x.1.isSome) && decide (([e₁, e₂] : List Expr).length + ([] : List Keyword).length + (if ([] : List Keyword).isEmpty then 0 else 1) < 30)) = true := by intro _; rfl)
    (hline : (apos.endLine == pos.line) = true := by decide) :
    SE (B.cx q n env vars) σ (.Call (.Attribute (.Name "COMPILER_FLAG_NAMES" p) "get" apos) [e₁, e₂] [] pos) (.str (listedOf m)) := by
  constructor; intro A h₀ s Q E hA hG hR hQ
  refine wpAny_Call_method_lateS (by rfl) (hfew _) hline (wp_global hk hx (hG.keeps hR.keep) (kn_flags hB) ?_)
  have hK := fun (h : Heap) (G : GC B.K B.mg B.mb h) => G.k 15 _ (k_flags hB)
  have g0 := hK s.heap (hG.keeps hR.keep)
  refine ⟨"dict", "dict.get", PySem.F.plainAttrs_dict, PySem.F.slot_dict_get, PySem.F.type_dict_get, ⟨_, g0, rfl⟩, fun b eb => ?_, ?_⟩
  · cases eb; exact ⟨_, g0, rfl⟩
  have ht : backTo pos (starEach [e₁, e₂] (B.cx q n env vars).env) = [(false, eval e₁ (B.cx q n env vars).env), (false, eval e₂ (B.cx q n env vars).env)] := by rw [hst]; rfl
  rw [ht]
  refine wpAny_dict_get2 (knd := intKind B.prog B.w) (by decide) (h1.run A h₀ s _ _ hA hG hR fun v s₁ x₁ r₁ => h2.run A h₀ s₁ _ _ hA hG (hR.ext x₁.keep) fun u s₂ x₂ r₂ => ?_)
  obtain ⟨t, rfl⟩ := rd_int_inv r₁
  obtain ⟨t', rfl⟩ := rd_str_inv r₂
  refine ⟨1 * 2 ^ m, fun k => findBy Value.isInt flagEntries k, by simp [intKind, Value.isInt], ⟨_, flagEntries, 10, hK s₂.heap (hG.keeps ((hR.ext x₁.keep).ext x₂.keep).keep), ⟨rfl, rfl, rfl⟩, rfl, flag_keys _ _, fun _ => rfl⟩, ?_⟩
  obtain ⟨t'', e⟩ := flag_get m hm t'
  show Q ((findBy Value.isInt flagEntries (1 * 2 ^ m)).getD _) _
  rw [e]
  exact hQ _ _ ((x₁.trans x₂).trans Ext.toks) rd_str

theorem and_zero : ∀ m, m < 12 → ∀ i, i < m → Builtin.bitAnd (2 ^ m) (1 * 2 ^ i) = 0 := by decide +kernel
theorem and_one : ∀ m, m < 12 → (Builtin.bitAnd (2 ^ m) (1 * 2 ^ m) != 0) = true := by decide +kernel
theorem xor_zero : ∀ m, m < 12 → (Builtin.bitXor (2 ^ m) (1 * 2 ^ m) != 0) = false := by decide +kernel

theorem listed_len : ∀ m, m < 12 → (listedOf m).length ≤ 18 := by decide +kernel
theorem listed_join : ∀ m, m < 12 → Txt.join (Str.ofString ", ") [listedOf m] = listedOf m := by decide +kernel
theorem pretty_ok (B : Base) (hB : BOk B) (m : Nat) (hm : m < 12) : FnOk B true 2 (.ref 22) [.int (2 ^ m)] (.str (listedOf m)) := by
  refine fn_of_body (params := ["flags"]) (locs := ["names", "i", "flag"]) (by rw [hB]; rfl) rfl (by rw [hB]; rfl) rfl rfl (fun vals hv => ?_) rfl (by decide +kernel) (by decide +kernel) rfl rfl (by decide +kernel) (fun L => rfl) fun L hF => ?_
  · exact len1 (P := fun vals => bindArgs _ ⟨vals, []⟩ = pure (List.zip _ vals)) (fun _ => rfl) vals hv
  · refine ss_cons (s1_own 1 hF rfl (.inl rfl) fun a => ?_)
    refine ss_cons (s1_for 2 hF rfl (.inl rfl) (si_range1 hF.toOk rfl (k_range hB) se_int.t (by decide)) (fun k σ => k ≤ m ∧ ∃ y z, σ = [.val (.int (2 ^ m)), .own a [], y, z]) ⟨Nat.zero_le _, _, _, rfl⟩ ?_ ?_ (by intro _; rfl))
    · rintro i σ d hd ⟨him, y, z, rfl⟩
      obtain ⟨hi, rfl⟩ := intsFrom0_inv hd
      have hi' : i < 32 := by omega
      refine ss_cons (s1_assign 3 hF rfl (.inl rfl) (se_bin (op_shl (by omega) (by omega) (by decide)) se_int.t (se_name 2 rfl rfl hF.toOk).t) ?_ rfl)
      show SS _ [.val (.int (2 ^ m)), .own a [], .val (.int i), .val (.int (1 * 2 ^ i))] _ _
      refine ss_cons (s1_if (st_val (se_bin op_and (se_name 0 rfl rfl hF.toOk).t (se_name 3 rfl rfl hF.toOk).t).t tr_int) (fun hb => ?_) (fun hb => ?_))
      · have e : i = m := by
          rcases Nat.lt_or_ge i m with h | h
          · rw [and_zero m hm i h] at hb; cases hb
          · omega
        subst e
        refine ss_cons (s1_append 1 hF rfl rfl (se_flag_get hB hm hF.toOk rfl (se_name 3 rfl rfl hF.toOk) (se_callB hF.toOk rfl (k_hex hB) (by decide +kernel) (ses_cons (se_name 3 rfl rfl hF.toOk).t ses_nil) (bn_hex (hex_short _ hm)))) (by decide) ?_)
        refine ss_cons (s1_aug 0 hF rfl (.inl rfl) rfl (se_name 3 rfl rfl hF.toOk) iop_xor ?_)
        refine ss_cons (s1_if (st_not (st_val (se_name 0 rfl rfl hF.toOk).t tr_int)) (fun hb' => ?_) (fun hb' => ?_))
        · refine ss_cons (s1_break ?_)
          refine ss_cons (s1_return (se_methS se_str.t (ses_cons (se_own 1 rfl rfl hF.toOk) ses_nil) F.slot_str_join F.type_str_join (bn_join (ys := [listedOf i]) ?_)).t ?_)
          · have := listed_len i hm
            simp only [List.map_cons, List.map_nil, List.sum_cons, List.sum_nil, List.length_cons, List.length_nil]
            have e : (Str.ofString ", ").length = 2 := by decide +kernel
            omega
          · show D.str _ = D.str _
            rw [listed_join i hm]
        · rw [xor_zero i hm] at hb'; cases hb'
      · refine ss_nil (ss_nil ⟨?_, _, _, rfl⟩)
        rcases Nat.lt_or_ge i m with h | h
        · exact h
        · have e : i = m := by omega
          subst e
          rw [and_one i hm] at hb; cases hb
    · rintro σ ⟨h, _⟩
      rw [intsFrom_len] at h
      exact absurd h (by omega)
end Mine
end

section
set_option maxRecDepth 100000
namespace Mine
open PySem.Calls PySem.Builtin PySem.Builtin.Str

noncomputable def numbersOf (s : List Int) : List Int :=
  (s.take 5).map (fun x => x.fmod 1000000) ++ ([3, 1, 9, 16, 706] : List Int).drop (s.take 5).length
noncomputable def fI (f : Int → Int) : D → D
  | .int x => .int (f x)
  | d => d
theorem map_fI (f : Int → Int) (xs : List Int) : (xs.map D.int).map (fI f) = (xs.map f).map D.int := by simp [fI, Function.comp_def]
theorem mem_ints {xs : List Int} {d : D} (h : d ∈ xs.map D.int) : ∃ x ∈ xs, d = .int x := by
  obtain ⟨x, hx, rfl⟩ := List.mem_map.mp h; exact ⟨x, hx, rfl⟩

theorem numbers_ok (B : Base) (hB : BOk B) (script : List Int) (hl : script.length ≤ 1000) : FnOk B true 2 (.ref 62) [dInts script] (dInts (numbersOf script)) := by
  refine fn_of_body (params := ["script"]) (locs := ["row"]) (by rw [hB]; rfl) rfl (by rw [hB]; rfl) rfl rfl (fun vals hv => ?_) rfl (by decide +kernel) (by decide +kernel) rfl rfl (by decide +kernel) (fun L => rfl) fun L hF => ?_
  · exact len1 (P := fun vals => bindArgs _ ⟨vals, []⟩ = pure (List.zip _ vals)) (fun _ => rfl) vals hv
  · have ht : (script.map D.int).take 5 = (script.take 5).map D.int := by rw [List.map_take]
    refine ss_cons (s1_map 1 (fI fun x => x.fmod 1000000) hF rfl rfl (CompOk.plain (by decide +kernel) (by decide +kernel) rfl (by decide +kernel) (by decide +kernel))
      (si_list (se_upto (k := 5) (se_name 0 rfl rfl hF.toOk).t se_int.t (by decide) (by simp; omega))) ?_ ?_ ?_ (by simp; omega) ?_)
    · intro d hd
      rw [show (5 : Int).toNat = 5 from rfl, ht] at hd
      obtain ⟨x, _, rfl⟩ := mem_ints hd; rfl
    · intro M d hd
      rw [show (5 : Int).toNat = 5 from rfl, ht] at hd
      obtain ⟨x, _, rfl⟩ := mem_ints hd
      exact se_bin (op_mod (by decide)) (se_name 0 rfl rfl ⟨rfl, rfl, rfl⟩).t (se_bin (op_pow (by decide) (by decide) (by decide)) se_int.t se_int.t).t
    · intro d hd
      rw [show (5 : Int).toNat = 5 from rfl, ht] at hd
      obtain ⟨x, _, rfl⟩ := mem_ints hd; rfl
    · rw [show (5 : Int).toNat = 5 from rfl, ht, map_fI]
      refine ss_cons (s1_return (se_bin (op_add_list ?_) (se_name 1 rfl rfl hF.toOk).t (se_from (se_list (sel_cons se_int (sel_cons se_int (sel_cons se_int (sel_cons se_int (sel_one se_int)))))).t
        (se_callB hF.toOk rfl (k_len hB) (by decide +kernel) (ses_cons (se_name 1 rfl rfl hF.toOk).t ses_nil) (bn_len_list (by simp; omega))).t (by omega) (by decide)).t).t ?_)
      · simp; omega
      · show D.list _ = D.list _
        congr 1
        unfold numbersOf
        rw [List.map_append]
        congr 1
        rw [List.map_drop]
        simp

noncomputable def menu : List Int := [1, 3, 5, 8]
theorem menu_pos : ∀ i, i < 4 → 1 ≤ gi menu (i : Nat) ∧ gi menu (i : Nat) ≤ 8 := by decide
noncomputable def rowAt (ns : List Int) : Nat → List Int
  | 0 => [0, -1]
  | k + 1 => (rowAt ns k).take (1 + (gi ns k).fmod (gi menu k)).toNat ++ [1 + (k : Int), -1] ++ (rowAt ns k).drop (1 + (gi ns k).fmod (gi menu k)).toNat
theorem rowAt_len (ns : List Int) : ∀ k, (rowAt ns k).length = 2 * k + 2
  | 0 => rfl
  | k + 1 => by
    have h := congrArg List.length (List.take_append_drop (1 + (gi ns k).fmod (gi menu k)).toNat (rowAt ns k))
    rw [List.length_append, rowAt_len ns k] at h
    rw [rowAt, List.length_append, List.length_append, Nat.add_right_comm, h]
    rfl

theorem row_ok (B : Base) (hB : BOk B) (ns : List Int) (hl : ns.length = 5) : FnOk B true 2 (.ref 69) [dInts ns] (dInts (rowAt ns 4)) := by
  refine fn_of_body (params := ["numbers"]) (locs := ["row", "k", "spot"]) (by rw [hB]; rfl) rfl (by rw [hB]; rfl) rfl rfl (fun vals hv => ?_) rfl (by decide +kernel) (by decide +kernel) rfl rfl (by decide +kernel) (fun L => rfl) fun L hF => ?_
  · exact len1 (P := fun vals => bindArgs _ ⟨vals, []⟩ = pure (List.zip _ vals)) (fun _ => rfl) vals hv
  · refine ss_cons (s1_assign 1 hF rfl (.inl rfl) (se_list (sel_cons se_int (sel_one (se_neg se_int.t)))) ?_ rfl)
    refine ss_cons (s1_for 2 hF rfl (.inl rfl) (si_range2 hF.toOk rfl (k_range hB) se_int.t se_int.t (by decide)) (fun k σ => ∃ y z, σ = [.val (dInts ns), .val (dInts (rowAt ns k)), y, z]) ⟨_, _, rfl⟩ ?_ ?_ (by intro _; rfl))
    · rintro i σ d hd ⟨y, z, rfl⟩
      obtain ⟨hi, rfl⟩ := intsFrom_inv hd
      have hi' : i < 4 := by omega
      have hm := menu_pos i hi'
      have e1 : (1 + (i : Int)) - 1 = i := by omega
      have hr := rowAt_len ns i
      have hpos : (0 : Int) ≤ 1 + (gi ns i).fmod (gi menu i) := by
        have := Int.fmod_nonneg_of_pos (gi ns i) (b := gi menu i) (by omega); omega
      refine ss_cons (s1_assign 3 hF rfl (.inl rfl) (se_bin op_add se_int.t (se_bin (op_mod (by omega)) (se_item (se_name 0 rfl rfl hF.toOk).t (se_of_eq (se_bin op_sub (se_name 2 rfl rfl hF.toOk).t se_int.t) (congrArg D.int e1)).t (by omega) (gi_get (by omega) (by omega)) (by omega)).t
        (se_item (xs := menu.map D.int) (se_list (sel_cons se_int (sel_cons se_int (sel_cons se_int (sel_one se_int))))).t (se_of_eq (se_bin op_sub (se_name 2 rfl rfl hF.toOk).t se_int.t) (congrArg D.int e1)).t (by omega) (gi_get (by omega) (by simp [menu]; omega)) (by omega)).t).t) ?_ rfl)
      refine ss_cons (s1_assign 1 hF rfl (.inl rfl) (se_of_eq (b' := dInts (rowAt ns (i + 1))) (se_bin (op_add_list ?_) (se_bin (op_add_list ?_) (se_upto (se_name 1 rfl rfl hF.toOk).t (se_name 3 rfl rfl hF.toOk).t hpos ?_).t (se_list (sel_cons (se_name 2 rfl rfl hF.toOk) (sel_one (se_neg se_int.t)))).t).t (se_from (se_name 1 rfl rfl hF.toOk).t (se_name 3 rfl rfl hF.toOk).t hpos ?_).t) ?_) (ss_nil ⟨_, _, rfl⟩) rfl)
      · simp; omega
      · simp; omega
      · simp; omega
      · simp; omega
      · show D.list _ = D.list _
        congr 1
        simp only [rowAt, List.map_append, List.map_take, List.map_drop, List.map_cons, List.map_nil]
    · rintro σ ⟨y, z, rfl⟩
      exact ss_nil (ss_cons (s1_return (se_name 1 rfl rfl hF.toOk).t rfl))

noncomputable def figuresOf (ns : List Int) : List Int := (gi ns 4).fmod 64 :: (List.range 4).map fun (k : Nat) => ((gi ns k).fdiv (gi menu k)).fmod 64
theorem CompOk.one {C : Cx} {σ : List LV} {scope : Scope} {x y : PySem.Str} {c : Addr} {j : Nat} {d : D} (hclos : closureFor scope C.env = pure [(y, c)]) (hcell : ∀ y ∈ scope.names, y.2 ≠ .cell) (hkind : scope.kind = .function)
    (hnames : ∀ y ∈ scope.names, y.2 = .local → scope.names.lookup y.1 = some .local) (htgt : scope.names.lookup x = some .local) (hfree : ∀ z ∈ scope.names, z.2 = .free → z.1 = y)
    (hc : C.env.cells.lookup y = some c) (hk : C.env.kindOf y = some .cell) (hr : (relabel scope C.env).names.lookup y = some .cell) (hj : C.vars[j]? = some y) (hv : σ[j]? = some (.val d)) : CompOk C σ scope [(y, c)] x [y] [.val d] := by
  refine ⟨hclos, hcell, hkind, hnames, htgt, fun z hz => ?_, fun z hz hzc => ?_, fun z hz => ?_, fun i z lv hi hlv => ?_, rfl⟩
  · simp at hz; subst hz; exact hc
  · unfold relabel at hz
    simp only [List.mem_map] at hz
    obtain ⟨⟨n, k⟩, hm, e⟩ := hz
    by_cases hb : (k == NameKind.free && C.env.scope.kind == .function && C.env.kindOf n == some .cell) = true
    · rw [if_pos hb] at e
      simp only [Bool.and_eq_true, beq_iff_eq] at hb
      have := hfree _ hm hb.1.1
      cases e
      simp only at this
      subst this
      simp
    · rw [if_neg hb] at e
      cases e
      exact absurd hzc (hcell _ hm)
  · simp at hz; subst hz; exact ⟨hr, hk, by simp⟩
  · cases i with
    | zero => simp at hi hlv; subst hi; subst hlv; exact ⟨j, d, hj, hv, rfl⟩
    | succ i => simp at hi

theorem log2_small {n : Nat} (h : n < 9000) : n.log2 < 9000 := Nat.lt_of_le_of_lt (Nat.log2_le_self n) h
theorem figures_ok (B : Base) (hB : BOk B) (ns : List Int) (hl : ns.length = 5) : FnOk B true 2 (.ref 74) [dInts ns] (dInts (figuresOf ns)) := by
  refine fn_of_body (params := ["numbers"]) (locs := []) (by rw [hB]; rfl) rfl (by rw [hB]; rfl) rfl rfl (fun vals hv => ?_) rfl (by decide +kernel) (by decide +kernel) rfl rfl (by decide +kernel) (fun L => rfl) fun L hF => ?_
  · exact len1 (P := fun vals => bindArgs _ ⟨vals, []⟩ = pure (List.zip _ vals)) (fun _ => rfl) vals hv
  · have e : ∀ d ∈ intsFrom 0 ((4 : Int) - 0).toNat, ∃ k : Nat, k < 4 ∧ d = .int k := fun d hd => by
      obtain ⟨k, hk⟩ := List.getElem?_of_mem hd
      obtain ⟨h1, h2⟩ := intsFrom0_inv hk
      exact ⟨k, by omega, h2⟩
    refine ss_cons (s1_return (se_bin (op_add_list ?_) (se_list (sel_one (se_bin (op_mod (by decide)) (se_item (se_name 0 rfl rfl hF.toOk).t se_int.t (by decide) (gi_get (by decide) (by omega)) (by decide)).t se_int.t))).t
      (se_map (cvals := [.val (dInts ns)]) (fI fun k => ((gi ns k).fdiv (gi menu k)).fmod 64) (CompOk.one (y := "numbers") (c := L + 1) (j := 0) (d := dInts ns) rfl (by decide +kernel) rfl (by decide +kernel) (by decide +kernel) (by decide +kernel) rfl rfl rfl rfl rfl) (si_range1 hF.toOk rfl (k_range hB) se_int.t (by decide)) ?_ ?_ ?_ ?_).t).t ?_)
    · simp [intsFrom]
    · intro d hd; obtain ⟨k, _, rfl⟩ := e d hd; rfl
    · intro M d hd
      obtain ⟨k, hk, rfl⟩ := e d hd
      have hm := menu_pos k hk
      exact se_bin (op_mod (by decide)) (se_bin (op_div (by omega) (log2_small (by omega))) (se_item (se_name 1 rfl rfl ⟨rfl, rfl, rfl⟩).t (se_name 0 rfl rfl ⟨rfl, rfl, rfl⟩).t (by omega) (gi_get (by omega) (by omega)) (by omega)).t
        (se_item (xs := menu.map D.int) (se_list (sel_cons se_int (sel_cons se_int (sel_cons se_int (sel_one se_int))))).t (se_name 0 rfl rfl ⟨rfl, rfl, rfl⟩).t (by omega) (gi_get (by omega) (by simp [menu]; omega)) (by omega)).t).t se_int.t
    · intro d hd; obtain ⟨k, _, rfl⟩ := e d hd; rfl
    · simp [intsFrom]
    · rfl
theorem ints_getElem {xs : List Int} {i : Nat} {d : D} (h : (xs.map D.int)[i]? = some d) : ∃ k, xs[i]? = some k ∧ d = .int k := by
  rw [List.getElem?_map] at h
  cases e : xs[i]? with
  | none => rw [e] at h; cases h
  | some k => rw [e] at h; exact ⟨k, rfl, by simpa using h.symm⟩
theorem take_map_snoc {α β : Type} {xs : List α} {i : Nat} {k : α} (g : α → β) (h : xs[i]? = some k) : (xs.take (i + 1)).map g = (xs.take i).map g ++ [g k] := by
  rw [List.take_add_one, h]; simp

end Mine
end

section
set_option maxRecDepth 100000
namespace Mine
open PySem.Calls PySem.Builtin PySem.Builtin.Str

noncomputable def gs (ws : List PySem.Str) (k : Int) : PySem.Str := ws.getD k.toNat Str.empty
theorem gs_get {ws : List PySem.Str} {k : Int} (h0 : 0 ≤ k) (h1 : k < ws.length) : (ws.map D.str)[k.toNat]? = some (.str (gs ws k)) := by
  have : k.toNat < ws.length := by omega
  simp [gs, this]
noncomputable def dresses : List PySem.Str := ["", "\"(\"", "\")\"", "\"\\\")\""]
noncomputable def dressOf (number : Int) : PySem.Str := gs dresses ((number.fdiv 320).fmod 4)
theorem dress_len (number : Int) : (dressOf number).length ≤ 5 := by
  have h1 := Int.fmod_nonneg_of_pos (number.fdiv 320) (b := 4) (by decide)
  have h2 := Int.fmod_lt_of_pos (number.fdiv 320) (b := 4) (by decide)
  unfold dressOf
  generalize (number.fdiv 320).fmod 4 = k at h1 h2
  obtain ⟨n, rfl⟩ := Int.eq_ofNat_of_zero_le h1
  have : n < 4 := by omega
  match n, this with
  | 0, _ => decide +kernel
  | 1, _ => decide +kernel
  | 2, _ => decide +kernel
  | 3, _ => decide +kernel
noncomputable def bareText (figs : List Int) (k : Int) : PySem.Str := (⟨#[(64 + gi figs k).toNat]⟩ : PySem.Str) ++ (⟨#[(65 + k).toNat]⟩ : PySem.Str) ++ Str.ofString "("
noncomputable def textOf (figs : List Int) (number k : Int) : PySem.Str :=
  if 0 ≤ k then (if k == (number.fdiv 64).fmod 5 then dressOf number ++ bareText figs k else bareText figs k) else Str.ofString ")"
theorem str_len_append (x y : PySem.Str) : (x ++ y).length = x.length + y.length := by
  show (x.cps ++ y.cps).size = _; rw [Array.size_append]; rfl
theorem bare_len (figs : List Int) (k : Int) : (bareText figs k).length = 3 := by
  unfold bareText
  rw [str_len_append, str_len_append, show (Str.ofString "(").length = 1 by decide +kernel]
  rfl
theorem texts_ok (B : Base) (hB : BOk B) (row figs : List Int) (number : Int) (hr : row.length ≤ 1000) (hk : ∀ k ∈ row, k < 5) (hf : figs.length = 5) (hfb : ∀ x ∈ figs, 0 ≤ x ∧ x < 64) :
    FnOk B true 2 (.ref 81) [dInts row, dInts figs, .int number] (.list ((row.map (textOf figs number)).map .str)) := by
  refine fn_of_body (params := ["row", "figures", "number"]) (locs := ["dress", "texts", "k", "text"]) (by rw [hB]; rfl) rfl (by rw [hB]; rfl) rfl rfl (fun vals hv => ?_) rfl (by decide +kernel) (by decide +kernel) rfl rfl (by decide +kernel) (fun L => rfl) fun L hF => ?_
  · exact len3 (P := fun vals => bindArgs _ ⟨vals, []⟩ = pure (List.zip _ vals)) (fun _ _ _ => rfl) vals hv
  · have m1 := Int.fmod_nonneg_of_pos (number.fdiv 320) (b := 4) (by decide)
    have m2 := Int.fmod_lt_of_pos (number.fdiv 320) (b := 4) (by decide)
    refine ss_cons (s1_assign 3 hF rfl (.inl rfl) (se_item (xs := dresses.map D.str) (se_list (sel_cons se_str (sel_cons se_str (sel_cons se_str (sel_one se_str))))).t
      (se_bin (op_mod (by decide)) (se_bin (op_div (by decide) (by decide)) (se_name 2 rfl rfl hF.toOk).t se_int.t).t se_int.t).t m1 (gs_get m1 (by simp [dresses]; omega)) (by omega)) ?_ rfl)
    refine ss_cons (s1_own 4 hF rfl (.inl rfl) fun a => ?_)
    refine ss_cons (s1_for 5 hF rfl (.inl rfl) (si_list (se_name 0 rfl rfl hF.toOk)) (fun i σ => ∃ y z, σ = [.val (dInts row), .val (dInts figs), .val (.int number), .val (.str (dressOf number)), .own a ((row.take i).map fun k => .str (textOf figs number k)), y, z]) ⟨_, _, rfl⟩ ?_ ?_ (by intro _; rfl))
    · rintro i σ d hd ⟨y, z, rfl⟩
      obtain ⟨k, hk', rfl⟩ := ints_getElem hd
      have hk5 := hk k (List.mem_of_getElem? hk')
      have e := take_map_snoc (fun k => D.str (textOf figs number k)) hk'
      have hsz : ((row.take i).map fun k => D.str (textOf figs number k)).length ≤ 1000000 := by simp; omega
      refine ss_cons (s1_assign 6 hF rfl (.inl rfl) se_str ?_ rfl)
      refine ss_cons (s1_if (st_cmp (se_name 5 rfl rfl hF.toOk).t se_int.t cmp_ge_int) (fun hb => ?_) (fun hb => ?_))
      · have h0 : 0 ≤ k := by simpa using hb
        have hg := hfb _ (mem_gi (ws := figs) (k := k) h0 (by omega))
        refine ss_cons (s1_assign 6 hF rfl (.inl rfl) (se_bin (op_add_str ?_) (se_bin (op_add_str ?_) (se_callB hF.toOk rfl (k_chr hB) (by decide +kernel) (ses_cons (se_bin op_add se_int.t (se_item (se_name 1 rfl rfl hF.toOk).t (se_name 5 rfl rfl hF.toOk).t h0 (gi_get h0 (by omega)) (by omega)).t).t ses_nil) (bn_chr (by omega) (by omega))).t
          (se_callB hF.toOk rfl (k_chr hB) (by decide +kernel) (ses_cons (se_bin op_add se_int.t (se_name 5 rfl rfl hF.toOk).t).t ses_nil) (bn_chr (by omega) (by omega))).t).t se_str.t) ?_ rfl)
        · rw [str_len_append, show (Str.ofString "(").length = 1 by decide +kernel]; show 1 + 1 + 1 ≤ _; omega
        · show 1 + 1 ≤ _; omega
        · refine ss_cons (s1_if (st_cmp (se_name 5 rfl rfl hF.toOk).t (se_bin (op_mod (by decide)) (se_bin (op_div (by decide) (by decide)) (se_name 2 rfl rfl hF.toOk).t se_int.t).t se_int.t).t cmp_eq_int) (fun hb2 => ?_) (fun hb2 => ?_))
          · refine ss_cons (s1_assign 6 hF rfl (.inl rfl) (se_bin (op_add_str ?_) (se_name 3 rfl rfl hF.toOk).t (se_name 6 rfl rfl hF.toOk).t) ?_ rfl)
            · have h1 := dress_len number
              have h2 := bare_len figs k
              show _ + (bareText figs k).length ≤ _
              omega
            · refine ss_nil (ss_nil (ss_cons (s1_append 4 hF rfl rfl (se_name 6 rfl rfl hF.toOk) hsz (ss_nil ?_))))
              have et : textOf figs number k = dressOf number ++ bareText figs k := by unfold textOf; rw [if_pos h0, if_pos hb2]
              rw [et] at e
              simp only [e]
              exact ⟨_, _, rfl⟩
          · refine ss_nil (ss_nil (ss_cons (s1_append 4 hF rfl rfl (se_name 6 rfl rfl hF.toOk) hsz (ss_nil ?_))))
            have et : textOf figs number k = bareText figs k := by unfold textOf; rw [if_pos h0, if_neg (by rw [hb2]; decide)]
            rw [et] at e
            simp only [e]
            exact ⟨_, _, rfl⟩
      · have h0 : ¬ 0 ≤ k := by simpa using hb
        refine ss_nil (ss_cons (s1_append 4 hF rfl rfl (se_name 6 rfl rfl hF.toOk) hsz (ss_nil ?_)))
        have et : textOf figs number k = Str.ofString ")" := by unfold textOf; rw [if_neg h0]
        rw [et] at e
        simp only [e]
        exact ⟨_, _, rfl⟩
    · rintro σ ⟨y, z, rfl⟩
      refine ss_nil (ss_cons (s1_return (se_own 4 rfl rfl hF.toOk) ?_))
      show D.list _ = D.list _
      rw [List.length_map, List.take_length, List.map_map]
      rfl
end Mine
end

section
set_option maxRecDepth 100000
namespace Mine
open PySem.Calls PySem.Builtin PySem.Builtin.Str

noncomputable def dNats (o : List Nat) : D := .list (o.map fun (n : Nat) => D.int (n : Int))
noncomputable def gn (o : List Nat) (k : Nat) : Nat := o.getD k 0
theorem gn_get {o : List Nat} {k : Int} (h0 : 0 ≤ k) (h1 : k < o.length) : (o.map fun (n : Nat) => D.int (n : Int))[k.toNat]? = some (.int (gn o k.toNat)) := by
  have : k.toNat < o.length := by omega
  simp [gn, this]
theorem gn_mem {o : List Nat} {k : Nat} (h : k < o.length) : gn o k ∈ o := by
  unfold gn
  rw [List.getD_eq_getElem?_getD, List.getElem?_eq_getElem h]
  exact List.getElem_mem h
noncomputable def partOf (ws : List Int) (o : List Nat) : Nat → Int
  | 0 => 1
  | k + 1 => partOf ws o k * (gi ws (gn o k) - gi ws (gn o (k + 1)))
noncomputable def totalOf (ws : List Int) (whole : Int) (orders : List (List Nat)) : Int := orders.foldl (fun t o => t + whole.fdiv (partOf ws o 4)) 0
structure OrdOk (ws : List Int) (o : List Nat) : Prop where
  len : o.length = 5
  lt : ∀ n ∈ o, n < 5
  nz : partOf ws o 4 ≠ 0
theorem part_bound {ws : List Int} (hl : ws.length = 5) (hb : ∀ w ∈ ws, 0 ≤ w ∧ w < 5000) {o : List Nat} (ho : OrdOk ws o) : ∀ k, k ≤ 4 → (partOf ws o k).natAbs ≤ 5000 ^ k
  | 0, _ => by simp [partOf]
  | k + 1, hk => by
    have ih := part_bound hl hb ho k (by omega)
    have h1 := hb _ (mem_gi (ws := ws) (k := (gn o k : Nat)) (by omega) (by have := ho.lt _ (gn_mem (o := o) (k := k) (by have := ho.len; omega)); omega))
    have h2 := hb _ (mem_gi (ws := ws) (k := (gn o (k + 1) : Nat)) (by omega) (by have := ho.lt _ (gn_mem (o := o) (k := k + 1) (by have := ho.len; omega)); omega))
    rw [partOf, Int.natAbs_mul, Nat.pow_succ]
    exact Nat.mul_le_mul ih (by omega)

theorem total_ok (B : Base) (hB : BOk B) (orders : List (List Nat)) (ws : List Int) (whole : Int) (hl : ws.length = 5) (hb : ∀ w ∈ ws, 0 ≤ w ∧ w < 5000) (hn : orders.length ≤ 1000) (ho : ∀ o ∈ orders, OrdOk ws o) :
    FnOk B true 2 (.ref 112) [.list (orders.map dNats), dInts ws, .int whole] (.int (totalOf ws whole orders)) := by
  refine fn_of_body (params := ["orders", "worths", "whole"]) (locs := ["total", "order", "part", "k"]) (by rw [hB]; rfl) rfl (by rw [hB]; rfl) rfl rfl (fun vals hv => ?_) rfl (by decide +kernel) (by decide +kernel) rfl rfl (by decide +kernel) (fun L => rfl) fun L hF => ?_
  · exact len3 (P := fun vals => bindArgs _ ⟨vals, []⟩ = pure (List.zip _ vals)) (fun _ _ _ => rfl) vals hv
  · refine ss_cons (s1_assign 3 hF rfl (.inl rfl) se_int ?_ rfl)
    refine ss_cons (s1_for 4 hF rfl (.inl rfl) (si_list (se_name 0 rfl rfl hF.toOk)) (fun i σ => ∃ x y z, σ = [.val (.list (orders.map dNats)), .val (dInts ws), .val (.int whole), .val (.int (totalOf ws whole (orders.take i))), x, y, z]) ⟨_, _, _, rfl⟩ ?_ ?_ (by intro _; rfl))
    · rintro i σ d hd ⟨x, y, z, rfl⟩
      rw [List.getElem?_map] at hd
      obtain ⟨o, ho', rfl⟩ : ∃ o, orders[i]? = some o ∧ d = dNats o := by
        cases e : orders[i]? with
        | none => rw [e] at hd; cases hd
        | some o => rw [e] at hd; exact ⟨o, rfl, by simpa using hd.symm⟩
      have hO := ho o (List.mem_of_getElem? ho')
      refine ss_cons (s1_assign 5 hF rfl (.inl rfl) se_int ?_ rfl)
      refine ss_cons (s1_for 6 hF rfl (.inl rfl) (si_range1 hF.toOk rfl (k_range hB) se_int.t (by decide)) (fun k σ => ∃ z, σ = [.val (.list (orders.map dNats)), .val (dInts ws), .val (.int whole), .val (.int (totalOf ws whole (orders.take i))), .val (dNats o), .val (.int (partOf ws o k)), z]) ⟨_, rfl⟩ ?_ ?_ (by intro _; rfl))
      · rintro k σ d hd ⟨z, rfl⟩
        obtain ⟨hk, rfl⟩ := intsFrom0_inv hd
        have hlen := hO.len
        have l1 := hO.lt _ (gn_mem (o := o) (k := k) (by omega))
        have l2 := hO.lt _ (gn_mem (o := o) (k := k + 1) (by omega))
        have b1 := hb _ (mem_gi (ws := ws) (k := (gn o k : Nat)) (by omega) (by omega))
        have b2 := hb _ (mem_gi (ws := ws) (k := (gn o (k + 1) : Nat)) (by omega) (by omega))
        refine ss_cons (s1_assign 5 hF rfl (.inl rfl) (se_bin (op_mul ?_) (se_name 5 rfl rfl hF.toOk).t (se_bin op_sub
          (se_item (se_name 1 rfl rfl hF.toOk).t (se_item (d := .int (gn o k : Nat)) (se_name 4 rfl rfl hF.toOk).t (se_name 6 rfl rfl hF.toOk).t (by omega) (gn_get (by omega) (by omega)) (by omega)).t (by omega) (gi_get (by omega) (by omega)) (by omega)).t
          (se_item (se_name 1 rfl rfl hF.toOk).t (se_item (d := .int (gn o (k + 1) : Nat)) (se_name 4 rfl rfl hF.toOk).t (se_bin op_add (se_name 6 rfl rfl hF.toOk).t se_int.t).t (by omega) (gn_get (by omega) (by omega)) (by omega)).t (by omega) (gi_get (by omega) (by omega)) (by omega)).t).t) (ss_nil ⟨_, rfl⟩) rfl)
        exact mul_ok_right (by omega) (by omega)
      · rintro σ ⟨z, rfl⟩
        have hb4 := part_bound hl hb hO 4 (Nat.le_refl _)
        have hlog : (partOf ws o 4).natAbs.log2 < 9000 := Nat.lt_of_lt_of_le ((Nat.log2_lt (by have := hO.nz; omega)).mpr (Nat.lt_of_le_of_lt hb4 (by decide : 5000 ^ 4 < 2 ^ 60))) (by decide)
        refine ss_nil (ss_cons (s1_aug 3 hF rfl (.inl rfl) rfl (se_bin (op_div hO.nz hlog) (se_name 2 rfl rfl hF.toOk).t (se_name 5 rfl rfl hF.toOk).t) iop_add (ss_nil ?_)))
        have e : totalOf ws whole (orders.take (i + 1)) = totalOf ws whole (orders.take i) + whole.fdiv (partOf ws o 4) := by
          unfold totalOf
          rw [List.take_add_one, ho', Option.toList_some, List.foldl_append]
          rfl
        simp only [e]
        exact ⟨_, _, _, rfl⟩
    · rintro σ ⟨x, y, z, rfl⟩
      refine ss_nil (ss_cons (s1_return (se_name 3 rfl rfl hF.toOk).t ?_))
      show D.int _ = D.int _
      rw [List.length_map, List.take_length]

/-! the other side -/
noncomputable def gapOf (laid figs : List Int) (p k : Int) : Int := if (gi figs k).fmod 2 == 0 then gi laid p - gi laid k else -(gi laid p - gi laid k)
noncomputable def dueRun (laid figs : List Int) : List Int → List Int → Int → Int
  | [], st, w => w
  | k :: r, st, w => if k < 0 then dueRun laid figs r st.dropLast w else
      match st.getLast? with
      | some p => dueRun laid figs r (st ++ [k]) (w.fdiv (gapOf laid figs p k))
      | none => if 0 < k then 0 else dueRun laid figs r (st ++ [k]) w
noncomputable def dueGood (laid figs : List Int) : List Int → List Int → Prop
  | [], st => True
  | k :: r, st => if k < 0 then st ≠ [] ∧ dueGood laid figs r st.dropLast else
      k < 5 ∧ (match st.getLast? with
      | some p => 0 ≤ p ∧ p < 5 ∧ gapOf laid figs p k ≠ 0 ∧ dueGood laid figs r (st ++ [k])
      | none => 0 < k ∨ dueGood laid figs r (st ++ [k]))

theorem due_ok (B : Base) (hB : BOk B) (row laid figs : List Int) (whole : Int) (hr : row.length ≤ 1000) (hl : laid.length = 5) (hb : ∀ w ∈ laid, 0 ≤ w ∧ w < 5000) (hf : figs.length = 5) (hg : dueGood laid figs row []) :
    FnOk B true 2 (.ref 119) [dInts row, dInts laid, dInts figs, .int whole] (.int (dueRun laid figs row [] whole)) := by
  obtain ⟨R, hR⟩ : ∃ R, dueRun laid figs row [] whole = R := ⟨_, rfl⟩
  rw [hR]
  refine fn_of_body (params := ["row", "laid", "figures", "whole"]) (locs := ["opened", "k", "gap"]) (by rw [hB]; rfl) rfl (by rw [hB]; rfl) rfl rfl (fun vals hv => ?_) rfl (by decide +kernel) (by decide +kernel) rfl rfl (by decide +kernel) (fun L => rfl) fun L hF => ?_
  · exact len4 (P := fun vals => bindArgs _ ⟨vals, []⟩ = pure (List.zip _ vals)) (fun _ _ _ _ => rfl) vals hv
  · refine ss_cons (s1_own 4 hF rfl (.inl rfl) fun a => ?_)
    refine ss_cons (s1_for 5 hF rfl (.inl rfl) (si_list (se_name 0 rfl rfl hF.toOk)) (fun i σ => ∃ st w y z, σ = [.val (dInts row), .val (dInts laid), .val (dInts figs), .val (.int w), .own a (st.map .int), y, z] ∧ st.length ≤ i ∧
      dueRun laid figs (row.drop i) st w = R ∧ dueGood laid figs (row.drop i) st) ⟨[], whole, _, _, rfl, Nat.le_refl _, hR, hg⟩ ?_ ?_ (by intro _; rfl))
    · rintro i σ d hd ⟨st, w, y, z, rfl, hst, hrun, hgood⟩
      obtain ⟨k, hk, rfl⟩ := ints_getElem hd
      have hilt : i < row.length := (List.getElem?_eq_some_iff.mp hk).1
      have hdrop : row.drop i = k :: row.drop (i + 1) := by
        rw [List.drop_eq_getElem_cons hilt]
        congr 1
        rw [List.getElem?_eq_getElem hilt] at hk
        exact Option.some.inj hk
      rw [hdrop] at hrun hgood
      refine ss_cons (s1_if (st_cmp (se_name 5 rfl rfl hF.toOk).t se_int.t cmp_lt_int) (fun hb1 => ?_) (fun hb1 => ?_))
      · have hneg : k < 0 := by simpa using hb1
        unfold dueGood at hgood; rw [if_pos hneg] at hgood
        unfold dueRun at hrun; rw [if_pos hneg] at hrun
        obtain ⟨hne, hgood⟩ := hgood
        obtain ⟨us, u, rfl⟩ : ∃ us u, st = us ++ [u] := ⟨st.dropLast, st.getLast hne, (List.dropLast_concat_getLast hne).symm⟩
        rw [List.dropLast_concat] at hgood hrun
        refine ss_cons (s1_pop (a := a) (xs := us.map .int) (d := .int u) 4 hF rfl (by simp) (by simp at hst ⊢; omega) (ss_nil (ss_nil ?_)))
        exact ⟨us, w, _, _, rfl, by simp at hst; omega, hrun, hgood⟩
      · have hneg : ¬ k < 0 := by simpa using hb1
        have h0 : 0 ≤ k := by omega
        unfold dueGood at hgood; rw [if_neg hneg] at hgood
        unfold dueRun at hrun; rw [if_neg hneg] at hrun
        obtain ⟨hk5, hgood⟩ := hgood
        refine ss_cons (s1_if (st_cmp (se_own 4 rfl rfl hF.toOk) (se_list sel_nil).t cmp_ne_nil) (fun hb2 => ?_) (fun hb2 => ?_))
        · have hne : st ≠ [] := by simpa using hb2
          obtain ⟨us, p, rfl⟩ : ∃ us u, st = us ++ [u] := ⟨st.dropLast, st.getLast hne, (List.dropLast_concat_getLast hne).symm⟩
          rw [List.getLast?_concat] at hgood hrun
          simp only at hgood hrun
          obtain ⟨hp0, hp5, hgap, hgood⟩ := hgood
          have bp := hb _ (mem_gi (ws := laid) (k := p) hp0 (by omega))
          have bk := hb _ (mem_gi (ws := laid) (k := k) h0 (by omega))
          have hlog : (gapOf laid figs p k).natAbs.log2 < 9000 := log2_small (by unfold gapOf; split <;> omega)
          refine ss_cons (s1_assign 6 hF rfl (.inl rfl) (se_bin op_sub (se_item (se_name 1 rfl rfl hF.toOk).t (se_item_neg (k := -1) (d := .int p) (se_own 4 rfl rfl hF.toOk) (se_neg se_int.t).t (by omega) (by simp; omega) (by simp; rw [show (-1 + ((us.length : Int) + 1)).toNat = us.length by omega]; simp) (by omega)).t hp0 (gi_get hp0 (by omega)) (by omega)).t
              (se_item (se_name 1 rfl rfl hF.toOk).t (se_name 5 rfl rfl hF.toOk).t h0 (gi_get h0 (by omega)) (by omega)).t) ?_ rfl)
          refine ss_cons (s1_assign 3 hF rfl (.inl rfl) (se_bin (op_div hgap hlog) (se_name 3 rfl rfl hF.toOk).t (se_ifexp (st_cmp (se_bin (op_mod (by decide)) (se_item (se_name 2 rfl rfl hF.toOk).t (se_name 5 rfl rfl hF.toOk).t h0 (gi_get h0 (by omega)) (by omega)).t se_int.t).t se_int.t cmp_eq_int)
            (fun h => se_of_eq (se_name 6 rfl rfl hF.toOk) (congrArg D.int (by unfold gapOf; rw [if_pos h]))) (fun h => se_of_eq (se_neg (se_name 6 rfl rfl hF.toOk).t) (congrArg D.int (by unfold gapOf; rw [if_neg (by rw [h]; decide)])))).t) ?_ rfl)
          refine ss_nil (ss_cons (s1_append 4 hF rfl rfl (se_name 5 rfl rfl hF.toOk) (by simp at hst ⊢; omega) (ss_nil (ss_nil ?_))))
          exact ⟨(us ++ [p]) ++ [k], _, _, _, by rw [List.map_append (l₁ := us ++ [p])]; rfl, by simp at hst ⊢; omega, hrun, hgood⟩
        · have hne : st = [] := by simpa using hb2
          subst hne
          simp only [List.getLast?_nil] at hgood hrun
          refine ss_cons (s1_if (st_cmp (se_name 5 rfl rfl hF.toOk).t se_int.t cmp_gt_int) (fun hb3 => ?_) (fun hb3 => ?_))
          · have hk0 : 0 < k := by simpa using hb3
            rw [if_pos hk0] at hrun
            refine ss_cons (s1_return se_int.t ?_)
            exact congrArg D.int hrun
          · have hk0 : ¬ 0 < k := by simpa using hb3
            rw [if_neg hk0] at hrun
            have hgood := hgood.resolve_left hk0
            refine ss_nil (ss_nil (ss_cons (s1_append 4 hF rfl rfl (se_name 5 rfl rfl hF.toOk) (by simp) (ss_nil (ss_nil ?_)))))
            exact ⟨[] ++ [k], w, _, _, rfl, by simp, hrun, hgood⟩
    · rintro σ ⟨st, w, y, z, rfl, hst, hrun, hgood⟩
      refine ss_nil (ss_cons (s1_return (se_name 3 rfl rfl hF.toOk).t ?_))
      show D.int _ = D.int _
      rw [← hrun, List.length_map, List.drop_length]
      rfl
end Mine
end

section
set_option maxRecDepth 100000
namespace Mine
open PySem.Calls PySem.Builtin PySem.Builtin.Str

noncomputable def dots : PySem.Str := "..."
theorem kn_dots {B : Base} (hB : BOk B) : ∃ t, nsIn B.K mainGlobals "ELLIPSIS_MARKER" = some (some (.str dots t)) := ⟨_, by rw [hB]; rfl⟩
noncomputable def ellRun (got : PySem.Str) : List PySem.Str → Int → Bool
  | [], _ => true
  | w :: r, p => if find4 got w p got.length < 0 then false else ellRun got r (find4 got w p got.length + w.length)
theorem strs_getElem {xs : List PySem.Str} {i : Nat} {d : D} (h : (xs.map D.str)[i]? = some d) : ∃ k, xs[i]? = some k ∧ d = .str k := by
  rw [List.getElem?_map] at h
  cases e : xs[i]? with
  | none => rw [e] at h; cases h
  | some k => rw [e] at h; exact ⟨k, rfl, by simpa using h.symm⟩
theorem drop_cons {α : Type} {xs : List α} {i : Nat} {k : α} (h : xs[i]? = some k) : xs.drop i = k :: xs.drop (i + 1) := by
  have hilt : i < xs.length := (List.getElem?_eq_some_iff.mp h).1
  rw [List.drop_eq_getElem_cons hilt]
  congr 1
  rw [List.getElem?_eq_getElem hilt] at h
  exact Option.some.inj h

theorem ell_ok (B : Base) (hB : BOk B) (want got e l : PySem.Str) (hc : Txt.contains want dots = true) (hs : Txt.split want dots = [Str.ofString "", e, l, Str.ofString ""]) (hw : want.length ≤ 1000000) (hg : got.length ≤ 1000000)
    (he : e.length ≤ 1000000) (hl : l.length ≤ 1000000) :
    FnOk B true 2 (.ref 36) [.str want, .str got] (.bool (ellRun got [Str.ofString "", e, l, Str.ofString ""] 0)) := by
  obtain ⟨R, hR⟩ : ∃ R, ellRun got [Str.ofString "", e, l, Str.ofString ""] 0 = R := ⟨_, rfl⟩
  rw [hR]
  obtain ⟨t, ht⟩ := kn_dots hB
  refine fn_of_body (params := ["want", "got"]) (locs := ["ws", "startpos", "endpos", "w"]) (by rw [hB]; rfl) rfl (by rw [hB]; rfl) rfl rfl (fun vals hv => ?_) rfl (by decide +kernel) (by decide +kernel) rfl rfl (by decide +kernel) (fun L => rfl) fun L hF => ?_
  · exact len2 (P := fun vals => bindArgs _ ⟨vals, []⟩ = pure (List.zip _ vals)) (fun _ _ => rfl) vals hv
  · have gd : ∀ {σ : List LV} {p : Pos}, SE (B.cx true 1 (callEnvC _ L 36) _) σ (.Name "ELLIPSIS_MARKER" p) (.str dots) := fun {σ p} => se_global hF.toOk rfl ht fun _ _ => rd_str
    have z0 : (Str.ofString "").length = 0 := by decide +kernel
    refine ss_cons (s1_if (st_cmp gd.t (se_name 0 rfl rfl hF.toOk).t cmp_notin_str) (fun hb => ?_) (fun hb => ?_))
    · rw [hc] at hb; cases hb
    · refine ss_nil (ss_cons (s1_assign 2 hF rfl (.inl rfl) (se_methS (se_name 0 rfl rfl hF.toOk).t (ses_cons gd.t ses_nil) F.slot_str_split F.type_str_split (bn_split (by decide +kernel) hw)) ?_ rfl))
      rw [hs]
      refine ss_cons (s1_assert (st_of_eq (st_cmp (se_callB hF.toOk rfl (k_len hB) (by decide +kernel) (ses_cons (se_name 2 rfl rfl hF.toOk).t ses_nil) (bn_len_list (by simp))).t se_int.t cmp_ge_int) (by simp)) ?_)
      refine ss_cons (s1_assign2 3 4 hF rfl rfl rfl rfl (sel_cons se_int (sel_one (se_callB hF.toOk rfl (k_len hB) (by decide +kernel) (ses_cons (se_name 1 rfl rfl hF.toOk).t ses_nil) (bn_len_str hg)))) ?_)
      refine ss_cons (s1_assign 5 hF rfl (.inl rfl) (se_item (d := .str (Str.ofString "")) (se_name 2 rfl rfl hF.toOk).t se_int.t (by decide) rfl (by decide)) ?_ rfl)
      refine ss_cons (s1_if (st_val (se_name 5 rfl rfl hF.toOk).t (tr_str (by omega))) (fun hb => ?_) (fun _ => ss_nil ?_))
      · rw [z0] at hb; cases hb
      refine ss_cons (s1_assign 5 hF rfl (.inl rfl) (se_item_neg (k := -1) (d := .str (Str.ofString "")) (se_name 2 rfl rfl hF.toOk).t (se_neg se_int.t).t (by decide) (by simp) rfl (by decide)) ?_ rfl)
      refine ss_cons (s1_if (st_val (se_name 5 rfl rfl hF.toOk).t (tr_str (by omega))) (fun hb => ?_) (fun _ => ss_nil ?_))
      · rw [z0] at hb; cases hb
      refine ss_cons (s1_if (st_cmp (se_name 3 rfl rfl hF.toOk).t (se_name 4 rfl rfl hF.toOk).t cmp_gt_int) (fun hb => ?_) (fun _ => ss_nil ?_))
      · have : (got.length : Int) < 0 := by simpa using hb
        omega
      refine ss_cons (s1_for 5 hF rfl (.inl rfl) (si_list (xs := [Str.ofString "", e, l, Str.ofString ""].map D.str) (se_name 2 rfl rfl hF.toOk)) (fun i σ => ∃ p z, σ = [.val (.str want), .val (.str got), .val (.list ([Str.ofString "", e, l, Str.ofString ""].map D.str)), .val (.int p), .val (.int got.length), z] ∧ ellRun got ([Str.ofString "", e, l, Str.ofString ""].drop i) p = R) ⟨0, _, rfl, hR⟩ ?_ ?_ (by intro _; rfl))
      · rintro i σ d hd ⟨p, z, rfl, hrun⟩
        obtain ⟨w, hw', rfl⟩ := strs_getElem hd
        rw [drop_cons hw'] at hrun
        unfold ellRun at hrun
        have hwl : w.length ≤ 1000000 := by
          have := List.mem_of_getElem? hw'
          simp only [List.mem_cons, List.not_mem_nil, or_false] at this
          rcases this with rfl | rfl | rfl | rfl <;> omega
        refine ss_cons (s1_assign 3 hF rfl (.inl rfl) (se_methS (se_name 1 rfl rfl hF.toOk).t (ses_cons (se_name 5 rfl rfl hF.toOk).t (ses_cons (se_name 3 rfl rfl hF.toOk).t (ses_cons (se_name 4 rfl rfl hF.toOk).t ses_nil))) F.slot_str_find F.type_str_find bn_find4) ?_ rfl)
        refine ss_cons (s1_if (st_cmp (se_name 3 rfl rfl hF.toOk).t se_int.t cmp_lt_int) (fun hb => ?_) (fun hb => ?_))
        · rw [if_pos (by simpa using hb)] at hrun
          exact ss_cons (s1_return se_bool.t (congrArg D.bool hrun))
        · rw [if_neg (by simpa using hb)] at hrun
          refine ss_nil (ss_cons (s1_aug 3 hF rfl (.inl rfl) rfl (se_callB hF.toOk rfl (k_len hB) (by decide +kernel) (ses_cons (se_name 5 rfl rfl hF.toOk).t ses_nil) (bn_len_str hwl)) iop_add (ss_nil ⟨_, _, rfl, hrun⟩)))
      · rintro σ ⟨p, z, rfl, hrun⟩
        exact ss_nil (ss_cons (s1_return se_bool.t (congrArg D.bool hrun)))
end Mine
end

section
set_option maxRecDepth 100000
namespace Mine
open PySem.Calls PySem.Builtin PySem.Builtin.Str

theorem s1_move {C : Cx} {σ : List LV} {x y : PySem.Str} {px py pos : Pos} {a : Addr} {xs : List D} {P : Out → Prop} (i j : Nat) (hF : C.Fn) (hi : C.vars[i]? = some x) (hj : C.vars[j]? = some y) (hx : C.env.kindOf x = some .local ∨ C.env.kindOf x = some .cell)
    (hv : σ[j]? = some (.own a xs)) (hP : P (.next ((σ.set j (.val (.list xs))).set i (.val (.list xs))))) (hd : (y == ("__debug__" : PySem.Str)) = false := by decide +kernel) (hn : (y == ("__classdict__" : PySem.Str)) = false := by decide +kernel) :
    S1 C σ (.Assign [.Name x px] (.Name y py) pos) P := by
  constructor; intro A h₀ s Q E hA hG hR hQ
  have R' := hR.demote hv
  have hlt : j < σ.length := (List.getElem?_eq_some_iff.mp hv).1
  exact (s1_assign i hF hi hx (se_name j hj (List.getElem?_set_self hlt) hF.toOk hd hn) hP rfl).run A h₀ s Q E hA hG R' hQ

noncomputable def nmAt (names : List PySem.Str) (k : Int) : PySem.Str := if k < 0 then gs names (k + names.length) else gs names k
theorem se_nm {C : Cx} {σ : List LV} {value slice : Expr} {pos : Pos} {names : List PySem.Str} {k : Int} (hv : SEt C σ value (.list (names.map .str))) (hs : SEt C σ slice (.int k)) (h0 : -(names.length : Int) ≤ k) (h1 : k < names.length) (hl : names.length ≤ 1000)
    (hsub : ∀ l k u, subscripted slice false (.ref l) (.int k u) = operate [.ref l, .int k u] (getItem (.ref l) (.int k u)) := by intros; with_unfolding_all rfl) : SE C σ (.Subscript value slice pos) (.str (nmAt names k)) := by
  unfold nmAt
  split
  · rename_i h
    have e := gs_get (ws := names) (k := k + names.length) (by omega) (by omega)
    exact se_item_neg hv hs h (by simpa using h0) (by rw [List.length_map]; exact e) (by omega) hsub
  · exact se_item hv hs (by omega) (gs_get (by omega) h1) (by omega) hsub

noncomputable def insOrd (o : List Nat) (i p : Nat) : List Nat := o.take p ++ [i] ++ o.drop p
noncomputable def earlyOf (names : List PySem.Str) (outers worths : List Int) (i : Nat) : PySem.Str := if ((gi worths i).fdiv 64).fmod 2 == 1 then gs names i else nmAt names (gi outers i)
noncomputable def lateOf (names : List PySem.Str) (outers worths : List Int) (i : Nat) : PySem.Str := if ((gi worths i).fdiv 64).fmod 2 == 1 then nmAt names (gi outers i) else gs names i
noncomputable def lineOf (names : List PySem.Str) (g : List Nat) : PySem.Str := Txt.join (Str.ofString "") (g.map fun (m : Nat) => gs names (m : Int))
noncomputable def keepB (names : List PySem.Str) (outers worths : List Int) (i : Nat) (g : List Nat) : Bool :=
  decide (gi outers i < 0) || ellRun (lineOf names g) [Str.ofString "", earlyOf names outers worths i, lateOf names outers worths i, Str.ofString ""] 0
noncomputable def growB (names : List PySem.Str) (outers worths : List Int) (i : Nat) (o : List Nat) (p : Nat) : List (List Nat) := ((List.range p).map (insOrd o i)).filter (keepB names outers worths i)
noncomputable def ordersAt (names : List PySem.Str) (outers worths : List Int) : Nat → List (List Nat)
  | 0 => [[0]]
  | n + 1 => (ordersAt names outers worths n).flatMap fun o => growB names outers worths (n + 1) o (n + 2)

theorem insOrd_len (o : List Nat) (i p : Nat) : (insOrd o i p).length = o.length + 1 := by
  have h := congrArg List.length (List.take_append_drop p o)
  rw [List.length_append] at h
  rw [insOrd, List.length_append, List.length_append, Nat.add_right_comm, h]
  rfl
theorem insOrd_mem {o : List Nat} {i p m : Nat} (h : m ∈ insOrd o i p) : m = i ∨ m ∈ o := by
  simp only [insOrd, List.mem_append, List.mem_singleton] at h
  rcases h with (h | h) | h
  · exact .inr (List.mem_of_mem_take h)
  · exact .inl h
  · exact .inr (List.mem_of_mem_drop h)
theorem ordersAt_shape (names : List PySem.Str) (outers worths : List Int) : ∀ n, ∀ o ∈ ordersAt names outers worths n, o.length = n + 1 ∧ ∀ m ∈ o, m ≤ n
  | 0, o, h => by simp [ordersAt] at h; subst h; simp
  | n + 1, o, h => by
    simp only [ordersAt, growB, List.mem_flatMap, List.mem_filter, List.mem_map, List.mem_range] at h
    obtain ⟨o', ho', ⟨p, hp, rfl⟩, _⟩ := h
    obtain ⟨h1, h2⟩ := ordersAt_shape names outers worths n o' ho'
    refine ⟨by rw [insOrd_len, h1], fun m hm => ?_⟩
    rcases insOrd_mem hm with rfl | hm
    · exact Nat.le_refl _
    · have := h2 m hm; omega
theorem growB_len (names : List PySem.Str) (outers worths : List Int) (i : Nat) (o : List Nat) (p : Nat) : (growB names outers worths i o p).length ≤ p := by
  unfold growB
  refine Nat.le_trans (List.length_filter_le _ _) ?_
  simp
theorem flatMap_len {α β : Type} {f : α → List β} {k : Nat} (h : ∀ a, (f a).length ≤ k) : ∀ l : List α, (l.flatMap f).length ≤ k * l.length
  | [] => by simp
  | a :: l => by
    have := flatMap_len h l
    have := h a
    simp only [List.flatMap_cons, List.length_append, List.length_cons, Nat.mul_add, Nat.mul_one]
    omega
theorem ordersAt_len (names : List PySem.Str) (outers worths : List Int) : ∀ n, n ≤ 4 → (ordersAt names outers worths n).length ≤ 6 ^ n
  | 0, _ => by simp [ordersAt]
  | n + 1, h => by
    have ih := ordersAt_len names outers worths n (by omega)
    have := flatMap_len (fun o => growB_len names outers worths (n + 1) o (n + 2)) (ordersAt names outers worths n)
    rw [ordersAt, Nat.pow_succ]
    have h6 : (n + 2) * (ordersAt names outers worths n).length ≤ 6 * (ordersAt names outers worths n).length := Nat.mul_le_mul_right _ (by omega)
    omega
noncomputable def fNm (names : List PySem.Str) : D → D
  | .int m => .str (gs names m)
  | d => d
structure NamesOk (names : List PySem.Str) : Prop where
  len : names.length = 5
  short : ∀ a ∈ names, a.length ≤ 100
  has : ∀ a ∈ names, ∀ b ∈ names, Txt.contains (dots ++ a ++ dots ++ b ++ dots) dots = true
  parts : ∀ a ∈ names, ∀ b ∈ names, Txt.split (dots ++ a ++ dots ++ b ++ dots) dots = [Str.ofString "", a, b, Str.ofString ""]
theorem gs_mem {ws : List PySem.Str} {k : Int} (h0 : 0 ≤ k) (h1 : k < ws.length) : gs ws k ∈ ws := by
  have : k.toNat < ws.length := by omega
  unfold gs
  rw [List.getD_eq_getElem?_getD, List.getElem?_eq_getElem this]
  exact List.getElem_mem this
theorem nmAt_mem {ws : List PySem.Str} {k : Int} (h0 : -(ws.length : Int) ≤ k) (h1 : k < ws.length) : nmAt ws k ∈ ws := by
  unfold nmAt
  split
  · exact gs_mem (by omega) (by omega)
  · exact gs_mem (by omega) h1
theorem sum_le {l : List Nat} {k : Nat} (h : ∀ x ∈ l, x ≤ k) : l.sum ≤ k * l.length := by
  induction l with
  | nil => simp
  | cons a l ih =>
    have h1 := ih fun x hx => h x (List.mem_cons_of_mem _ hx)
    have h2 := h a List.mem_cons_self
    simp only [List.sum_cons, List.length_cons, Nat.mul_add, Nat.mul_one]
    omega

theorem line_len {names : List PySem.Str} (N : NamesOk names) {g : List Nat} (hg : g.length ≤ 5) (hm : ∀ m ∈ g, m < 5) : ((g.map fun (m : Nat) => gs names (m : Int)).map (·.length)).sum ≤ 500 ∧ (lineOf names g).length ≤ 1000000 := by
  have h1 : ((g.map fun (m : Nat) => gs names (m : Int)).map (·.length)).sum ≤ 100 * g.length := by
    have := sum_le (l := (g.map fun (m : Nat) => gs names (m : Int)).map (·.length)) (k := 100) (fun x hx => by
      simp only [List.map_map, List.mem_map] at hx
      obtain ⟨m, hm', rfl⟩ := hx
      exact N.short _ (gs_mem (by omega) (by have := hm m hm'; have := N.len; omega)))
    simpa using this
  refine ⟨by omega, ?_⟩
  have e : (Str.ofString "").length = 0 := by decide +kernel
  have h2 : (lineOf names g).length = ((g.map fun (m : Nat) => gs names (m : Int)).map (·.length)).sum + ((g.map fun (m : Nat) => gs names (m : Int)).length - 1) * (Str.ofString "").length := size_glued _ _
  rw [e] at h2
  omega

theorem ss_if_join {C : Cx} {σ : List LV} {t : Expr} {body orelse rest : List Stmt} {pos : Pos} {b : Bool} {P : Out → Prop} (σ' : List LV) (ht : ST C σ t b) (h1 : b = true → SS C σ body fun o => match o with | .next σ₁ => σ₁ = σ' | _ => False)
    (h2 : b = false → SS C σ orelse fun o => match o with | .next σ₁ => σ₁ = σ' | _ => False) (h : SS C σ' rest P) : SS C σ (.If t body orelse pos :: rest) P := by
  have key : ∀ o : Out, (match o with | .next σ₁ => σ₁ = σ' | _ => False) → Then C rest P o := fun o ho => by
    cases o with
    | next σ₁ => have e : σ₁ = σ' := ho; subst e; exact h
    | brk _ => exact ho.elim
    | cont _ => exact ho.elim
    | ret _ => exact ho.elim
  exact ss_cons (s1_if ht (fun hb => ss_mono (h1 hb) key) (fun hb => ss_mono (h2 hb) key))

theorem growB_succ (names : List PySem.Str) (outers worths : List Int) (i : Nat) (o : List Nat) (p : Nat) :
    growB names outers worths i o (p + 1) = growB names outers worths i o p ++ (if keepB names outers worths i (insOrd o i p) = true then [insOrd o i p] else []) := by
  unfold growB
  rw [List.range_succ, List.map_append, List.filter_append]
  congr 1
  rw [List.map_cons, List.map_nil, List.filter_cons, List.filter_nil]

theorem orders_ok (B : Base) (hB : BOk B) (names : List PySem.Str) (outers worths : List Int) (N : NamesOk names) (ho : outers.length = 5) (hob : ∀ x ∈ outers, -1 ≤ x ∧ x < 5) (hw : worths.length = 5) :
    FnOk B true 4 (.ref 98) [.list (names.map .str), dInts outers, dInts worths] (.list ((ordersAt names outers worths 4).map dNats)) := by
  refine fn_of_body (params := ["names", "outers", "worths"]) (locs := ["orders", "i", "early", "late", "pattern", "longer", "order", "p", "grown"]) (by rw [hB]; rfl) rfl (by rw [hB]; rfl) rfl rfl (fun vals hv => ?_) rfl (by decide +kernel) (by decide +kernel) rfl rfl (by decide +kernel) (fun L => rfl) fun L hF => ?_
  · exact len3 (P := fun vals => bindArgs _ ⟨vals, []⟩ = pure (List.zip _ vals)) (fun _ _ _ => rfl) vals hv
  · have hnl := N.len
    refine ss_cons (s1_assign 3 hF rfl (.inl rfl) (se_list (sel_one (se_list (sel_one se_int)))) ?_ rfl)
    refine ss_cons (s1_for 4 hF rfl (.inl rfl) (si_range2 hF.toOk rfl (k_range hB) se_int.t se_int.t (by decide)) (fun n σ => ∃ b c d e f g h k, σ = [.val (.list (names.map .str)), .val (dInts outers), .val (dInts worths), .val (.list ((ordersAt names outers worths n).map dNats)), b, c, d, e, f, g, h, k]) ⟨_, _, _, _, _, _, _, _, rfl⟩ ?_ ?_ (by intro _; rfl))
    · rintro n σ d hd ⟨b, c, d', e, f, g, h, k, rfl⟩
      obtain ⟨hn, rfl⟩ := intsFrom_inv hd
      have hn4 : n < 4 := by omega
      rw [show (1 + (n : Int)) = ((n + 1 : Nat) : Int) by omega]
      have hib := hob _ (mem_gi (ws := outers) (k := ((n + 1 : Nat) : Int)) (by omega) (by omega))
      have mE : nmAt names (gi outers ((n + 1 : Nat) : Int)) ∈ names := nmAt_mem (by omega) (by omega)
      have mI : gs names ((n + 1 : Nat) : Int) ∈ names := gs_mem (by omega) (by omega)
      refine ss_cons (s1_assign2 5 6 hF rfl rfl rfl rfl (sel_cons (se_nm (se_name 0 rfl rfl hF.toOk).t (se_item (se_name 1 rfl rfl hF.toOk).t (se_name 4 rfl rfl hF.toOk).t (by omega) (gi_get (by omega) (by omega)) (by omega)).t (by omega) (by omega) (by omega))
        (sel_one (se_item (se_name 0 rfl rfl hF.toOk).t (se_name 4 rfl rfl hF.toOk).t (by omega) (gs_get (by omega) (by omega)) (by omega)))) ?_)
      refine ss_if_join [.val (.list (names.map .str)), .val (dInts outers), .val (dInts worths), .val (.list ((ordersAt names outers worths n).map dNats)), .val (.int ((n + 1 : Nat) : Int)), .val (.str (earlyOf names outers worths (n + 1))), .val (.str (lateOf names outers worths (n + 1))), e, f, g, h, k]
        (st_cmp (se_bin (op_mod (by decide)) (se_bin (op_div (by decide) (by decide)) (se_item (se_name 2 rfl rfl hF.toOk).t (se_name 4 rfl rfl hF.toOk).t (by omega) (gi_get (by omega) (by omega)) (by omega)).t se_int.t).t se_int.t).t se_int.t cmp_eq_int) (fun hb => ?_) (fun hb => ?_) ?_
      · refine ss_cons (s1_assign2 5 6 hF rfl rfl rfl rfl (sel_cons (se_name 6 rfl rfl hF.toOk) (sel_one (se_name 5 rfl rfl hF.toOk))) (ss_nil ?_))
        show _ = _
        unfold earlyOf lateOf
        rw [if_pos hb, if_pos hb]
        rfl
      · refine ss_nil ?_
        show _ = _
        unfold earlyOf lateOf
        rw [if_neg (by rw [hb]; decide), if_neg (by rw [hb]; decide)]
        rfl
      have mEa : earlyOf names outers worths (n + 1) ∈ names := by unfold earlyOf; split <;> assumption
      have mLa : lateOf names outers worths (n + 1) ∈ names := by unfold lateOf; split <;> assumption
      have sE := N.short _ mEa
      have sL := N.short _ mLa
      have d3 : dots.length = 3 := by decide +kernel
      refine ss_cons (s1_assign 7 hF rfl (.inl rfl) (se_of_eq (b' := .str (dots ++ earlyOf names outers worths (n + 1) ++ dots ++ lateOf names outers worths (n + 1) ++ dots))
        (se_bin (op_add_str ?_) (se_bin (op_add_str ?_) (se_bin (op_add_str ?_) (se_bin (op_add_str ?_) (se_str (x := dots)).t (se_name 5 rfl rfl hF.toOk).t).t (se_str (x := dots)).t).t (se_name 6 rfl rfl hF.toOk).t).t (se_str (x := dots)).t) rfl) ?_ rfl)
      · simp only [str_len_append, d3]; omega
      · simp only [str_len_append, d3]; omega
      · simp only [str_len_append, d3]; omega
      · simp only [str_len_append, d3]; omega
      refine ss_cons (s1_own 8 hF rfl (.inl rfl) fun a => ?_)
      have hsh := ordersAt_shape names outers worths n
      have hcount := ordersAt_len names outers worths n (by omega)
      have h6 : 6 ^ n ≤ 6 ^ 4 := Nat.pow_le_pow_right (by decide) (by omega)
      refine ss_cons (s1_for 9 hF rfl (.inl rfl) (si_list (se_name 3 rfl rfl hF.toOk)) (fun j σ => ∃ g h k, σ = [.val (.list (names.map .str)), .val (dInts outers), .val (dInts worths), .val (.list ((ordersAt names outers worths n).map dNats)), .val (.int ((n + 1 : Nat) : Int)), .val (.str (earlyOf names outers worths (n + 1))), .val (.str (lateOf names outers worths (n + 1))),
        .val (.str (dots ++ earlyOf names outers worths (n + 1) ++ dots ++ lateOf names outers worths (n + 1) ++ dots)), .own a ((((ordersAt names outers worths n).take j).flatMap fun o => growB names outers worths (n + 1) o (n + 2)).map dNats), g, h, k]) ⟨_, _, _, rfl⟩ ?_ ?_ (by intro _; rfl))
      · rintro j σ d hd ⟨g, h, k, rfl⟩
        rw [List.getElem?_map] at hd
        obtain ⟨o, ho', rfl⟩ : ∃ o, (ordersAt names outers worths n)[j]? = some o ∧ d = dNats o := by
          cases e : (ordersAt names outers worths n)[j]? with
          | none => rw [e] at hd; cases hd
          | some o => rw [e] at hd; exact ⟨o, rfl, by simpa using hd.symm⟩
        obtain ⟨hol, hom⟩ := hsh o (List.mem_of_getElem? ho')
        have hbase : ((((ordersAt names outers worths n).take j).flatMap fun o => growB names outers worths (n + 1) o (n + 2))).length ≤ 6 * 6 ^ 4 := by
          have h1 := flatMap_len (fun o => growB_len names outers worths (n + 1) o (n + 2)) ((ordersAt names outers worths n).take j)
          have h2 : ((ordersAt names outers worths n).take j).length ≤ 6 ^ 4 := by rw [List.length_take]; omega
          have h3 := Nat.mul_le_mul (show n + 2 ≤ 6 by omega) h2
          omega
        generalize hbs : (((ordersAt names outers worths n).take j).flatMap fun o => growB names outers worths (n + 1) o (n + 2)) = base at hbase
        refine ss_cons (s1_for 10 hF rfl (.inl rfl) (si_range1 hF.toOk rfl (k_range hB) (se_bin op_add (se_name 4 rfl rfl hF.toOk).t se_int.t).t (by omega)) (fun p σ => ∃ h k, σ = [.val (.list (names.map .str)), .val (dInts outers), .val (dInts worths), .val (.list ((ordersAt names outers worths n).map dNats)), .val (.int ((n + 1 : Nat) : Int)), .val (.str (earlyOf names outers worths (n + 1))), .val (.str (lateOf names outers worths (n + 1))),
          .val (.str (dots ++ earlyOf names outers worths (n + 1) ++ dots ++ lateOf names outers worths (n + 1) ++ dots)), .own a ((base ++ growB names outers worths (n + 1) o p).map dNats), .val (dNats o), h, k]) ⟨h, k, by rw [show growB names outers worths (n + 1) o 0 = [] from rfl, List.append_nil]; rfl⟩ ?_ ?_ (by intro _; rfl))
        · rintro p σ d hd ⟨h, k, rfl⟩
          obtain ⟨hp, rfl⟩ := intsFrom0_inv hd
          have hgl : (insOrd o (n + 1) p).length ≤ 5 := by rw [insOrd_len]; omega
          have hgm : ∀ m ∈ insOrd o (n + 1) p, m < 5 := fun m hm => by
            rcases insOrd_mem hm with rfl | hm
            · omega
            · have := hom m hm; omega
          have hll := line_len N hgl hgm
          have hown : ((base ++ growB names outers worths (n + 1) o p).map dNats).length ≤ 1000000 := by
            have := growB_len names outers worths (n + 1) o p
            simp only [List.length_map, List.length_append]
            omega
          refine ss_cons (s1_assign 11 hF rfl (.inl rfl) (se_of_eq (b' := dNats (insOrd o (n + 1) p)) (se_bin (op_add_list ?_) (se_bin (op_add_list ?_) (se_upto (se_name 9 rfl rfl hF.toOk).t (se_name 10 rfl rfl hF.toOk).t (by omega) (by simp; omega)).t (se_list (sel_one (se_name 4 rfl rfl hF.toOk))).t).t
            (se_from (se_name 9 rfl rfl hF.toOk).t (se_name 10 rfl rfl hF.toOk).t (by omega) (by simp; omega)).t) ?_) ?_ rfl)
          · simp; omega
          · simp; omega
          · simp [dNats, insOrd, List.map_take, List.map_drop]
          · skip
            refine ss_cons (s1_if (b := keepB names outers worths (n + 1) (insOrd o (n + 1) p)) (st_or (st_cmp (se_item (se_name 1 rfl rfl hF.toOk).t (se_name 4 rfl rfl hF.toOk).t (by omega) (gi_get (by omega) (by omega)) (by omega)).t se_int.t cmp_lt_int)
              (fun _ => st_val (se_callF hF.toOk rfl (by show nsIn B.K mainGlobals "_ellipsis_match" = some (some (.ref 36)); rw [hB]; rfl) (by show B.K.lookup 36 = _; rw [hB]; rfl) rfl (ses_cons (se_name 7 rfl rfl hF.toOk).t (ses_cons
                (se_methS se_str.t (ses_cons (se_of_eq (b' := .list (((insOrd o (n + 1) p).map fun (m : Nat) => gs names (m : Int)).map D.str)) (se_map (fNm names) (CompOk.one (y := "names") (c := L + 1) (j := 0) (d := .list (names.map .str)) rfl (by decide +kernel) rfl (by decide +kernel) (by decide +kernel) (by decide +kernel) rfl rfl rfl rfl rfl) (si_list (se_name 11 rfl rfl hF.toOk)) ?_ ?_ ?_ ?_) (by simp [fNm, Function.comp_def])).t ses_nil) F.slot_str_join F.type_str_join
                  (bn_join (ys := (insOrd o (n + 1) p).map fun (m : Nat) => gs names (m : Int)) ?_)).t ses_nil)) (ell_ok B hB _ _ _ _ (N.has _ mEa _ mLa) (N.parts _ mEa _ mLa) ?_ ?_ ?_ ?_) (show 2 ≤ 3 from by decide) (.inl rfl) (.inl rfl)).t tr_bool)) (fun hb => ?_) (fun hb => ?_))
            · intro d hd
              obtain ⟨m, _, rfl⟩ := List.mem_map.mp hd; rfl
            · intro M d hd
              obtain ⟨m, hm, rfl⟩ := List.mem_map.mp hd
              have := hgm m hm
              exact se_item (se_name 1 rfl rfl ⟨rfl, rfl, rfl⟩).t (se_name 0 rfl rfl ⟨rfl, rfl, rfl⟩).t (by omega) (gs_get (by omega) (by omega)) (by omega)
            · intro d hd
              obtain ⟨m, _, rfl⟩ := List.mem_map.mp hd; rfl
            · simp; omega
            · have e : (Str.ofString "").length = 0 := by decide +kernel
              rw [e]; omega
            · simp only [str_len_append, d3]; omega
            · exact hll.2
            · omega
            · omega
            · have e : (base ++ growB names outers worths (n + 1) o (p + 1)).map dNats = (base ++ growB names outers worths (n + 1) o p).map dNats ++ [dNats (insOrd o (n + 1) p)] := by
                rw [growB_succ, if_pos hb]; simp
              refine ss_cons (s1_append 8 hF rfl rfl (se_name 11 rfl rfl hF.toOk) hown (ss_nil (ss_nil ?_)))
              simp only [e]
              exact ⟨_, _, rfl⟩
            · have e : growB names outers worths (n + 1) o (p + 1) = growB names outers worths (n + 1) o p := by
                rw [growB_succ, if_neg (by rw [hb]; decide), List.append_nil]
              refine ss_nil (ss_nil ?_)
              simp only [e]
              exact ⟨_, _, rfl⟩
        · rintro σ ⟨h, k, rfl⟩
          rw [intsFrom_len, show (((n + 1 : Nat) : Int) + 1 - 0).toNat = n + 2 by omega]
          have e : (((ordersAt names outers worths n).take (j + 1)).flatMap fun o => growB names outers worths (n + 1) o (n + 2)) = base ++ growB names outers worths (n + 1) o (n + 2) := by
            rw [List.take_add_one, ho', Option.toList_some, List.flatMap_append, hbs]; simp
          refine ss_nil (ss_nil ?_)
          simp only [e]
          exact ⟨_, _, _, rfl⟩
      · rintro σ ⟨g, h, k, rfl⟩
        rw [List.length_map, List.take_length]
        exact ss_nil (ss_cons (s1_move 3 8 hF rfl rfl (.inl rfl) rfl (ss_nil ⟨_, _, _, _, _, _, _, _, rfl⟩)))
    · rintro σ ⟨b, c, d, e, f, g, h, k, rfl⟩
      exact ss_nil (ss_cons (s1_return (se_name 3 rfl rfl hF.toOk).t rfl))
end Mine
end

section
set_option maxRecDepth 100000
namespace Mine
open PySem.Calls PySem.Builtin PySem.Builtin.Str

noncomputable def bsl : PySem.Str := "\\"
noncomputable def escPairs : Nat → Bool → List Nat → List (Int × PySem.Str)
  | _, _, [] => []
  | i, true, c :: r => (i, bsl ++ ⟨#[c]⟩) :: escPairs (i + 1) false r
  | i, false, c :: r => if (⟨#[c]⟩ == bsl : Bool) = true then escPairs (i + 1) true r else (i, ⟨#[c]⟩) :: escPairs (i + 1) false r
noncomputable def escOpen : Bool → List Nat → Bool
  | b, [] => b
  | true, c :: r => escOpen false r
  | false, c :: r => escOpen (⟨#[c]⟩ == bsl) r
noncomputable def escs (x : PySem.Str) : List (Int × PySem.Str) := escPairs 0 false x.cps.toList

theorem sub_aux {l m : Nat} (h : m + 1 ≤ l) : l - (m + 1) + 1 = l - m := by rw [Nat.sub_succ]; exact Nat.succ_pred_eq_of_pos (Nat.sub_pos_of_lt h)
theorem drop_tail {α : Type} {ys t : List α} {a : α} {n : Nat} (hn : n ≤ ys.length) (h : a :: t = ys.drop (ys.length - n)) : ∃ m, n = m + 1 ∧ ys[ys.length - 1 - m]? = some a ∧ t = ys.drop (ys.length - m) ∧ m < ys.length := by
  cases n with
  | zero => rw [Nat.sub_zero, List.drop_length] at h; cases h
  | succ m =>
    refine ⟨m, rfl, ?_, ?_, hn⟩
    · rw [Nat.sub_sub, Nat.add_comm 1 m, ← List.head?_drop, ← h]; rfl
    · rw [← sub_aux hn, ← List.tail_drop, ← h]; rfl

structure EscInv (txt : PySem.Str) (j n : Nat) (σ : List LV) (ys : List (Int × PySem.Str)) : Prop where
  st : ∃ u v esc, σ = [.val (.str txt), u, .val (.bool esc), v] ∧ AllFlat [u, v] ∧ escPairs j esc (txt.cps.toList.drop j) = ys.drop (ys.length - n) ∧ escOpen esc (txt.cps.toList.drop j) = false
  le : n ≤ ys.length

theorem flat4 {txt : PySem.Str} {u v : LV} {esc : Bool} (h : AllFlat [u, v]) : AllFlat [.val (.str txt), u, .val (.bool esc), v] := fun lv hm => by
  simp at hm
  rcases hm with rfl | rfl | rfl | rfl
  · exact .inr ⟨_, rfl, rfl⟩
  · exact h _ (by simp)
  · exact .inr ⟨_, rfl, rfl⟩
  · exact h _ (by simp)
theorem flat2 {a b : D} (ha : a.flat = true) (hb : b.flat = true) : AllFlat [.val a, .val b] := fun lv hm => by
  simp at hm
  rcases hm with rfl | rfl
  · exact .inr ⟨_, rfl, ha⟩
  · exact .inr ⟨_, rfl, hb⟩

theorem esc_ok (B : Base) (hB : BOk B) (txt : PySem.Str) (hlen : txt.length ≤ 1000) (hend : escOpen false txt.cps.toList = false) : GenOk B 5 (.ref 43) [.str txt] (escs txt) := by
  refine gen_of_body (n := 2) (params := ["addr"]) (locs := ["pos", "escape", "ch"]) (by rw [hB]; rfl) rfl (by rw [hB]; rfl) rfl rfl (fun vals hv => ?_) rfl (by simp [D.flat]) (by decide +kernel) (fun L => rfl) (by decide +kernel) rfl rfl (by decide +kernel) (fun L => rfl) fun L hF Pr A' hb s' K H hPL hnew hbox hA hG I hfl hK => ?_
  · exact len1 (P := fun vals => bindArgs _ ⟨vals, []⟩ = pure (List.zip _ vals)) (fun _ => rfl) vals hv
  · refine seg_execs_cons (g_stmt hF rfl (fun x => rfl) hPL hfl (s1_assign 1 hF rfl (.inl rfl) se_int rfl rfl) (AOK.over_func hA) hG I fun s₁ kp₁ I₁ => ?_)
    have f₁ := AllFlat.set (d := .int 0) (i := 1) hfl rfl
    refine seg_execs_cons (g_stmt hF rfl (fun x => rfl) hPL f₁ (s1_assign 2 hF rfl (.inl rfl) se_bool rfl rfl) (AOK.over_func hA) hG I₁ fun s₂ kp₂ I₂ => ?_)
    have f₂ := AllFlat.set (d := .bool false) (i := 2) f₁ rfl
    refine seg_execs_cons ?_
    refine g_enum 1 3 0 hF rfl (fun x => rfl) hPL (fun h' hk b hb => ?_) rfl rfl rfl rfl rfl rfl (k_enumerate hB) rfl hA hG I₂ (fun j n σ => EscInv txt j n σ (escs txt)) (fun j n σ hi => ?_) ?_ ?_ ?_ (fun v => rfl)
    · obtain ⟨b₀, o, hb₀, hnp, hmore⟩ := hbox
      have e : s₂.heap.get? b₀ = some o := I₂.run.keep b₀ o hnp hb₀
      exact hmore b (Nat.lt_of_lt_of_le (Heap.lt_size (hk b₀ o e)) hb)
    · obtain ⟨⟨u, v, esc, rfl, h1, _⟩, _⟩ := hi
      exact flat4 h1
    · refine ⟨⟨.val (.int 0), .unset, false, rfl, fun lv hm => ?_, by simp [escs], by simpa using hend⟩, Nat.le_refl _⟩
      simp at hm
      rcases hm with rfl | rfl
      · exact .inr ⟨_, rfl, rfl⟩
      · exact .inl rfl
    · intro c' fs St j' n σ s₀ s ch K' H' hfs hfg hAl hSt hch hinv I' st kont
      obtain ⟨⟨u, v, esc, rfl, huv, hpairs, hop⟩, hle⟩ := hinv
      have hlt : j' < txt.cps.toList.length := by
        have := (Array.getElem?_eq_some_iff.mp hch).1
        simpa using this
      have hd : txt.cps.toList.drop j' = ch :: txt.cps.toList.drop (j' + 1) := by
        rw [List.drop_eq_getElem_cons hlt]
        congr 1
        have := (Array.getElem?_eq_some_iff.mp hch).2
        simpa using this
      rw [hd] at hpairs hop
      have fin' : AllFlat [LV.val (.int (j' : Int)), LV.val (.str ⟨#[ch]⟩)] := flat2 rfl rfl
      have hStp : ∀ h h', St h → (∀ b o, Pr b → h.get? b = some o → h'.get? b = some o) → St h' := fun h h' a b => hSt h h' a fun x o hp _ e => b x o hp e
      have hStl : ∀ h h', St h → (∀ b o, b ≠ L → h.get? b = some o → h'.get? b = some o) → St h' := fun h h' a b => hSt h h' a fun x o hp hn e => b x o hn e
      refine seg_execs_cons (g_if rfl (st_val (b := esc) (se_name 2 rfl rfl hF.toOk).t tr_bool) hAl hG I' (fun hb s₃ x₃ => ?_) (fun hb s₃ x₃ => ?_))
      · -- a sign behind a backslash
        subst hb
        simp only [escPairs] at hpairs
        obtain ⟨m, rfl, hget, htl, hml⟩ := drop_tail hle hpairs
        have st₃ := hStl _ _ st fun b o _ e => x₃.keep b o e
        refine seg_execs_cons (g_yield hF rfl (fun x => rfl) (flat4 fin') hfs rfl hfg (sel_cons (se_name 1 rfl rfl hF.toOk) (sel_one (se_bin (op_add_str ?_) (se_str (x := bsl)).t (se_name 3 rfl rfl hF.toOk).t))) hAl hG (I'.ext x₃) hml hget hPL st₃ hStp fun s₄ I₄ st₄ => ?_)
        · show bsl.length + 1 ≤ 1000000
          decide +kernel
        refine seg_execs_cons (g_stmt hF rfl (fun x => rfl) hPL (flat4 fin') (s1_assign 2 hF rfl (.inl rfl) se_bool rfl rfl) hAl hG I₄ fun s₅ kp₅ I₅ => ?_)
        exact kont m _ s₄ s₅ ⟨⟨_, _, _, rfl, fin', htl, hop⟩, by omega⟩ I₅ (hStl _ _ st₄ kp₅)
      · subst hb
        have st₃ := hStl _ _ st fun b o _ e => x₃.keep b o e
        refine seg_execs_cons (g_if rfl (st_cmp (se_name 3 rfl rfl hF.toOk).t (se_str (x := bsl)).t cmp_eq_str) hAl hG (I'.ext x₃) (fun hb s₄ x₄ => ?_) (fun hb s₄ x₄ => ?_))
        · have st₄ := hStl _ _ st₃ fun b o _ e => x₄.keep b o e
          simp only [escPairs, hb, if_true] at hpairs
          simp only [escOpen, hb] at hop
          refine seg_execs_cons (g_stmt hF rfl (fun x => rfl) hPL (flat4 fin') (s1_assign 2 hF rfl (.inl rfl) se_bool rfl rfl) hAl hG ((I'.ext x₃).ext x₄) fun s₅ kp₅ I₅ => ?_)
          exact kont n _ s₀ s₅ ⟨⟨_, _, _, rfl, fin', hpairs, hop⟩, hle⟩ I₅ (hStl _ _ st₄ kp₅)
        · have st₄ := hStl _ _ st₃ fun b o _ e => x₄.keep b o e
          simp only [escPairs, hb, Bool.false_eq_true, if_false] at hpairs
          simp only [escOpen, hb] at hop
          obtain ⟨m, rfl, hget, htl, hml⟩ := drop_tail hle hpairs
          refine seg_execs_cons (g_yield hF rfl (fun x => rfl) (flat4 fin') hfs rfl hfg (sel_cons (se_name 1 rfl rfl hF.toOk) (sel_one (se_name 3 rfl rfl hF.toOk))) hAl hG ((I'.ext x₃).ext x₄) hml hget hPL st₄ hStp fun s₅ I₅ st₅ => ?_)
          exact kont m _ s₅ s₅ ⟨⟨_, _, _, rfl, fin', htl, hop⟩, by omega⟩ I₅ st₅
    · intro n σ s₀ s hinv I'
      obtain ⟨⟨u, v, esc, rfl, huv, hpairs, hop⟩, hle⟩ := hinv
      rw [List.drop_eq_nil_of_le (by simp)] at hpairs hop
      have he : esc = false := by cases esc <;> simp_all [escOpen]
      subst he
      have hn : n = 0 := by
        have := congrArg List.length hpairs
        simp [escPairs] at this
        omega
      subst hn
      show Seg _ _ _ _ 0 s₀ _ ((execs _ _).wrap K H _root_.id _root_.id) [] s
      refine seg_execs_cons (g_if rfl (st_val (b := false) (se_name 2 rfl rfl hF.toOk).t tr_bool) (AOK.over_func hA) hG I' (fun hb => nomatch hb) (fun hb s₃ x₃ => ?_))
      show Seg _ _ _ _ 0 s₀ _ (K .next) [] s₃
      rw [hK]
      exact seg_end (.ok (.ret .none)) ⟨rfl, rfl, (I'.ext x₃).run⟩
end Mine
end

section
set_option maxRecDepth 100000
namespace Mine
open PySem.Calls PySem.Builtin PySem.Builtin.Str

noncomputable def quo : PySem.Str := "\""
noncomputable def dOpt : Option Int → D
  | none => .none
  | some i => .int i
theorem dOpt_flat (o : Option Int) : (dOpt o).flat = true := by cases o <;> rfl
noncomputable def stripRun (txt : PySem.Str) : List (Int × PySem.Str) → Int → Option Int → List PySem.Str → Int × List PySem.Str
  | [], start, _, res => (start, res)
  | (p, ch) :: r, start, op, res => if (ch == quo) = true then (match op with
      | none => stripRun txt r start (some p) res
      | some o => stripRun txt r (p + 1) none (if (start != o) = true then res ++ [Txt.slice txt (some start) (some o)] else res)) else stripRun txt r start op res
noncomputable def stripOf (txt : PySem.Str) : PySem.Str := if Txt.contains txt quo = true then
    (match stripRun txt (escs txt) 0 none [] with
      | (s, res) => Txt.join (Str.ofString "") (if s < txt.length then res ++ [Txt.slice txt (some s) none] else res)) else txt

theorem escPairs_len : ∀ (l : List Nat) (i : Nat) (b : Bool), (escPairs i b l).length ≤ l.length
  | [], _, _ => by simp [escPairs]
  | c :: r, i, true => by
    have := escPairs_len r (i + 1) false
    simp only [escPairs, List.length_cons]; omega
  | c :: r, i, false => by
    have h1 := escPairs_len r (i + 1) true
    have h2 := escPairs_len r (i + 1) false
    simp only [escPairs]
    split <;> simp only [List.length_cons] <;> omega
theorem escs_len (x : PySem.Str) : (escs x).length ≤ x.length := by
  have := escPairs_len x.cps.toList 0 false
  simpa [escs, Str.length] using this

structure StripInv (txt : PySem.Str) (a : Addr) (R : Int × List PySem.Str) (k : Nat) (σ : List LV) : Prop where
  st : ∃ start op res p c, σ = [.val (.str txt), .val (.int start), .val (dOpt op), .own a (res.map .str), p, c] ∧ AllFlat [p, c] ∧ stripRun txt ((escs txt).drop k) start op res = R ∧ res.length ≤ k ∧ ∀ y ∈ res, y.length ≤ 1000

theorem strip_ok (B : Base) (hB : BOk B) (txt : PySem.Str) (hlen : txt.length ≤ 1000) (hend : escOpen false txt.cps.toList = false) : FnOk B false 8 (.ref 50) [.str txt] (.str (stripOf txt)) := by
  refine fn_of_body (params := ["addr"]) (locs := ["start", "open_pos", "result", "pos", "ch"]) (by rw [hB]; rfl) rfl (by rw [hB]; rfl) rfl rfl (fun vals hv => ?_) rfl (by decide +kernel) (by decide +kernel) rfl rfl (by decide +kernel) (fun L => rfl) fun L hF => ?_
  · exact len1 (P := fun vals => bindArgs _ ⟨vals, []⟩ = pure (List.zip _ vals)) (fun _ => rfl) vals hv
  · have hel := escs_len txt
    refine ss_cons (s1_if (st_cmp (se_str (x := quo)).t (se_name 0 rfl rfl hF.toOk).t cmp_notin_str) (fun hb => ?_) (fun hb => ?_))
    · refine ss_cons (s1_return (se_name 0 rfl rfl hF.toOk).t ?_)
      show D.str txt = D.str (stripOf txt)
      unfold stripOf
      rw [if_neg (by rw [Bool.not_eq_true'] at hb; rw [hb]; decide)]
    have hc : Txt.contains txt quo = true := by simpa using hb
    obtain ⟨R, hR⟩ : ∃ R, stripRun txt (escs txt) 0 none [] = R := ⟨_, rfl⟩
    have hso : stripOf txt = Txt.join (Str.ofString "") (if R.1 < txt.length then R.2 ++ [Txt.slice txt (some R.1) none] else R.2) := by
      unfold stripOf
      rw [if_pos hc, hR]
    refine ss_nil (ss_cons (s1_assign 1 hF rfl (.inl rfl) se_int ?_ rfl))
    refine ss_cons (s1_assign 2 hF rfl (.inl rfl) se_none ?_ rfl)
    refine ss_cons (s1_own 3 hF rfl (.inl rfl) fun a => ?_)
    refine ss_cons (s1_forgen 4 5 hF rfl rfl rfl rfl rfl rfl (by show nsIn B.K mainGlobals "_iter_escaped_chars" = some (some (.ref 43)); rw [hB]; rfl) (by show B.K.lookup 43 = _; rw [hB]; rfl) rfl (ses_cons (se_name 0 rfl rfl hF.toOk).t ses_nil) (esc_ok B hB txt hlen hend) (show 5 ≤ 7 from by decide)
      (fun k σ => StripInv txt a R k σ ∧ k ≤ (escs txt).length) ⟨⟨0, none, [], .unset, .unset, rfl, fun lv hm => ?_, hR, Nat.le_refl _, fun y hy => nomatch hy⟩, Nat.zero_le _⟩ ?_ ?_ ?_)
    · simp at hm
      exact .inl hm
    · rintro k σ' ⟨⟨start, op, res, p, c, rfl, hpc, _, _, _⟩, _⟩ lv hm
      simp at hm
      rcases hm with rfl | rfl | rfl | rfl | rfl | rfl
      · exact .inr (.inl ⟨_, rfl, rfl⟩)
      · exact .inr (.inl ⟨_, rfl, rfl⟩)
      · exact .inr (.inl ⟨_, rfl, dOpt_flat _⟩)
      · refine .inr (.inr ⟨a, _, rfl, fun x hx => ?_, ?_⟩)
        · obtain ⟨y, _, rfl⟩ := List.mem_map.mp hx; rfl
        · exact List.mem_flatMap.mpr ⟨.own a [], by simp [List.set], by simp [LV.w]⟩
      · rcases hpc _ List.mem_cons_self with h | h
        · exact .inl h
        · exact .inr (.inl h)
      · rcases hpc _ (List.mem_cons_of_mem _ List.mem_cons_self) with h | h
        · exact .inl h
        · exact .inr (.inl h)
    · rintro k σ' p ch hget ⟨⟨start, op, res, u, v, rfl, hpc, hrun, hrl, hrs⟩, hkl⟩
      rw [drop_cons hget] at hrun
      unfold stripRun at hrun
      have hk1 : k + 1 ≤ (escs txt).length := (List.getElem?_eq_some_iff.mp hget).1
      have fl : AllFlat [LV.val (.int p), LV.val (.str ch)] := flat2 rfl rfl
      refine ss_cons (s1_if (st_cmp (se_name 5 rfl rfl hF.toOk).t (se_str (x := quo)).t cmp_eq_str) (fun hb => ?_) (fun hb => ?_))
      · rw [if_pos hb] at hrun
        cases op with
        | none =>
          refine ss_cons (s1_if (b := true) (st_cmp (se_name (d := .none) 2 rfl rfl hF.toOk).t se_none.t (cmp_is_none (.inl rfl))) (fun _ => ?_) (fun hb => nomatch hb))
          refine ss_cons (s1_assign 2 hF rfl (.inl rfl) (se_name 4 rfl rfl hF.toOk) (ss_nil (ss_nil (ss_nil ?_))) rfl)
          exact ⟨⟨_, some p, _, _, _, rfl, fl, hrun, by omega, hrs⟩, hk1⟩
        | some o =>
          have tail : ∀ (res' : List PySem.Str) (P : Out → Prop), res'.length ≤ k + 1 → (∀ y ∈ res', y.length ≤ 1000) → stripRun txt ((escs txt).drop (k + 1)) (p + 1) none res' = R → True := fun _ _ _ _ _ => trivial
          refine ss_cons (s1_if (b := false) (st_cmp (se_name (d := .int o) 2 rfl rfl hF.toOk).t se_none.t (cmp_is_none (.inr ⟨_, rfl⟩))) (fun hb => nomatch hb) (fun _ => ?_))
          refine ss_if_join [.val (.str txt), .val (.int start), .val (.int o), .own a ((if (start != o) = true then res ++ [Txt.slice txt (some start) (some o)] else res).map .str), .val (.int p), .val (.str ch)] (st_cmp (se_name 1 rfl rfl hF.toOk).t (se_name (d := .int o) 2 rfl rfl hF.toOk).t cmp_ne_int) (fun hb' => ?_) (fun hb' => ?_) ?_
          · refine ss_cons (s1_append 3 hF rfl rfl (se_str_slice (se_name 0 rfl rfl hF.toOk).t (sp_some (se_name 1 rfl rfl hF.toOk).t) (sp_some (se_name (d := .int o) 2 rfl rfl hF.toOk).t) (by omega)) (by simp; omega) (ss_nil ?_))
            show _ = _
            rw [if_pos hb', List.map_append]
            rfl
          · refine ss_nil ?_
            show _ = _
            rw [if_neg (by rw [hb']; decide)]
            rfl
          · refine ss_cons (s1_assign 1 hF rfl (.inl rfl) (se_bin op_add (se_name 4 rfl rfl hF.toOk).t se_int.t) ?_ rfl)
            refine ss_cons (s1_assign 2 hF rfl (.inl rfl) se_none (ss_nil (ss_nil (ss_nil ?_))) rfl)
            refine ⟨⟨_, none, _, _, _, rfl, fl, hrun, ?_, ?_⟩, hk1⟩
            · split
              · simp; omega
              · omega
            · intro y hy
              split at hy
              · rcases List.mem_append.mp hy with h | h
                · exact hrs y h
                · simp at h; subst h
                  exact Nat.le_trans (Txt.slice_le _ _ _) hlen
              · exact hrs y hy
      · rw [if_neg (by rw [hb]; decide)] at hrun
        refine ss_nil (ss_nil ?_)
        exact ⟨⟨_, op, _, _, _, rfl, fl, hrun, by omega, hrs⟩, hk1⟩
    · rintro σ' ⟨⟨start, op, res, u, v, rfl, hpc, hrun, hrl, hrs⟩, _⟩
      rw [List.drop_eq_nil_of_le (Nat.le_refl _)] at hrun
      unfold stripRun at hrun
      subst hrun
      have hjoin : ∀ rs : List PySem.Str, rs.length ≤ 1001 → (∀ y ∈ rs, y.length ≤ 1000) → (rs.map (·.length)).sum + rs.length * (Str.ofString "").length ≤ 16777216 := fun rs h1 h2 => by
        have h3 := sum_le (l := rs.map (·.length)) (k := 1000) (fun x hx => by obtain ⟨y, hy, rfl⟩ := List.mem_map.mp hx; exact h2 y hy)
        have e : (Str.ofString "").length = 0 := by decide +kernel
        rw [e]
        simp at h3
        omega
      refine ss_if_join [.val (.str txt), .val (.int start), .val (dOpt op), .own a ((if start < txt.length then res ++ [Txt.slice txt (some start) none] else res).map .str), u, v] (st_cmp (se_name 1 rfl rfl hF.toOk).t (se_callB hF.toOk rfl (k_len hB) (by decide +kernel) (ses_cons (se_name 0 rfl rfl hF.toOk).t ses_nil) (bn_len_str (by omega))).t cmp_lt_int) (fun hb' => ?_) (fun hb' => ?_) ?_
      · refine ss_cons (s1_append 3 hF rfl rfl (se_str_slice (se_name 0 rfl rfl hF.toOk).t (sp_some (se_name 1 rfl rfl hF.toOk).t) sp_none (by omega)) (by simp; omega) (ss_nil ?_))
        show _ = _
        rw [if_pos (by simpa using hb'), List.map_append]
        rfl
      · refine ss_nil ?_
        show _ = _
        rw [if_neg (by simpa using hb')]
      · refine ss_cons (s1_return (se_methS se_str.t (ses_cons (se_own 3 rfl rfl hF.toOk) ses_nil) F.slot_str_join F.type_str_join (bn_join (hjoin _ ?_ ?_))).t ?_)
        · split
          · simp; omega
          · omega
        · intro y hy
          split at hy
          · rcases List.mem_append.mp hy with h | h
            · exact hrs y h
            · simp at h; subst h
              exact Nat.le_trans (Txt.slice_le _ _ _) hlen
          · exact hrs y hy
        · show D.str _ = D.str _
          rw [hso]
end Mine
end

section
set_option maxRecDepth 100000
namespace Mine
open PySem.Calls PySem.Builtin PySem.Builtin.Str

noncomputable def parL : PySem.Str := "("
noncomputable def parR : PySem.Str := ")"
noncomputable def parenRun : List (Int × PySem.Str) → Int → Bool
  | [], o => o == 0
  | (_, ch) :: r, o => if (ch == parL) = true then parenRun r (o + 1) else if (ch == parR) = true then (if o - 1 < 0 then false else parenRun r (o - 1)) else parenRun r o
noncomputable def closesOf (txt : PySem.Str) : Bool := parenRun (escs (stripOf txt)) 0

structure ParenInv (txt : PySem.Str) (R : Bool) (k : Nat) (σ : List LV) : Prop where
  st : ∃ o p c, σ = [.val (.str txt), .val (.int o), p, c] ∧ AllFlat [p, c] ∧ parenRun ((escs txt).drop k) o = R

theorem paren_ok (B : Base) (hB : BOk B) (txt : PySem.Str) (hlen : txt.length ≤ 1000) (hend : escOpen false txt.cps.toList = false) (hlen' : (stripOf txt).length ≤ 1000) (hend' : escOpen false (stripOf txt).cps.toList = false) :
    FnOk B false 10 (.ref 57) [.str txt] (.bool (closesOf txt)) := by
  obtain ⟨R, hR⟩ : ∃ R, closesOf txt = R := ⟨_, rfl⟩
  rw [hR]
  refine fn_of_body (params := ["addr"]) (locs := ["opens", "pos", "ch"]) (by rw [hB]; rfl) rfl (by rw [hB]; rfl) rfl rfl (fun vals hv => ?_) rfl (by decide +kernel) (by decide +kernel) rfl rfl (by decide +kernel) (fun L => rfl) fun L hF => ?_
  · exact len1 (P := fun vals => bindArgs _ ⟨vals, []⟩ = pure (List.zip _ vals)) (fun _ => rfl) vals hv
  · refine ss_cons (s1_assign 0 hF rfl (.inl rfl) (se_callF hF.toOk rfl (by show nsIn B.K mainGlobals "_strip_quoted_realnames" = some (some (.ref 50)); rw [hB]; rfl) (by show B.K.lookup 50 = _; rw [hB]; rfl) rfl (ses_cons (se_name 0 rfl rfl hF.toOk).t ses_nil) (strip_ok B hB txt hlen hend) (show 8 ≤ 9 from by decide) (.inr rfl) (.inl rfl)) ?_ rfl)
    refine ss_cons (s1_assign 1 hF rfl (.inl rfl) se_int ?_ rfl)
    refine ss_cons (s1_forgen 2 3 hF rfl rfl rfl rfl rfl rfl (by show nsIn B.K mainGlobals "_iter_escaped_chars" = some (some (.ref 43)); rw [hB]; rfl) (by show B.K.lookup 43 = _; rw [hB]; rfl) rfl (ses_cons (se_name 0 rfl rfl hF.toOk).t ses_nil) (esc_ok B hB (stripOf txt) hlen' hend') (show 5 ≤ 9 from by decide)
      (fun k σ => ParenInv (stripOf txt) R k σ) ⟨⟨0, .unset, .unset, rfl, fun lv hm => ?_, hR⟩⟩ ?_ ?_ ?_)
    · simp at hm
      exact .inl hm
    · rintro k σ' ⟨⟨o, p, c, rfl, hpc, _⟩⟩ lv hm
      simp at hm
      rcases hm with rfl | rfl | rfl | rfl
      · exact .inr (.inl ⟨_, rfl, rfl⟩)
      · exact .inr (.inl ⟨_, rfl, rfl⟩)
      · rcases hpc _ List.mem_cons_self with h | h
        · exact .inl h
        · exact .inr (.inl h)
      · rcases hpc _ (List.mem_cons_of_mem _ List.mem_cons_self) with h | h
        · exact .inl h
        · exact .inr (.inl h)
    · rintro k σ' p ch hget ⟨⟨o, u, v, rfl, hpc, hrun⟩⟩
      rw [drop_cons hget] at hrun
      unfold parenRun at hrun
      have fl : AllFlat [LV.val (.int p), LV.val (.str ch)] := flat2 rfl rfl
      refine ss_cons (s1_if (st_cmp (se_name 3 rfl rfl hF.toOk).t (se_str (x := parL)).t cmp_eq_str) (fun hb => ?_) (fun hb => ?_))
      · rw [if_pos hb] at hrun
        exact ss_cons (s1_aug 1 hF rfl (.inl rfl) rfl se_int iop_add (ss_nil (ss_nil ⟨⟨_, _, _, rfl, fl, hrun⟩⟩)))
      · rw [if_neg (by rw [hb]; decide)] at hrun
        refine ss_cons (s1_if (st_cmp (se_name 3 rfl rfl hF.toOk).t (se_str (x := parR)).t cmp_eq_str) (fun hb => ?_) (fun hb => ?_))
        · rw [if_pos hb] at hrun
          refine ss_cons (s1_aug 1 hF rfl (.inl rfl) rfl se_int iop_sub ?_)
          refine ss_cons (s1_if (st_cmp (se_name 1 rfl rfl hF.toOk).t se_int.t cmp_lt_int) (fun hb' => ?_) (fun hb' => ?_))
          · rw [if_pos (by simpa using hb')] at hrun
            refine ss_cons (s1_return se_bool.t ?_)
            show D.bool false = D.bool R
            rw [hrun]
          · rw [if_neg (by simpa using hb')] at hrun
            exact ss_nil (ss_nil (ss_nil (ss_nil ⟨⟨_, _, _, rfl, fl, hrun⟩⟩)))
        · rw [if_neg (by rw [hb]; decide)] at hrun
          exact ss_nil (ss_nil (ss_nil ⟨⟨_, _, _, rfl, fl, hrun⟩⟩))
    · rintro σ' ⟨⟨o, u, v, rfl, hpc, hrun⟩⟩
      rw [List.drop_eq_nil_of_le (Nat.le_refl _)] at hrun
      unfold parenRun at hrun
      refine ss_cons (s1_return (se_cmp (se_name 1 rfl rfl hF.toOk).t se_int.t cmp_eq_int).t ?_)
      show D.bool _ = D.bool R
      rw [hrun]
end Mine
end

section
set_option maxRecDepth 100000
namespace Mine
open PySem.Calls PySem.Builtin PySem.Builtin.Str

structure TxtOk (txt : PySem.Str) : Prop where
  len : txt.length ≤ 1000
  fin : escOpen false txt.cps.toList = false
  len' : (stripOf txt).length ≤ 1000
  fin' : escOpen false (stripOf txt).cps.toList = false
noncomputable def placeAt (texts : List PySem.Str) (i : Nat) : Int := (((texts.take i).map (·.length)).sum : Nat)
noncomputable def outJ (line : PySem.Str) (starts outers : List Int) (place : Int) : Nat → Int → Int
  | 0, j => j
  | n + 1, j => if j < 0 then j else if closesOf (Txt.slice line (some (gi starts j)) (some place) ++ parR) = true then j else outJ line starts outers place n (gi outers j)
noncomputable def outRun (line : PySem.Str) : List PySem.Str → Int → List Int → List Int → List Int
  | [], _, _, outers => outers
  | t :: r, place, starts, outers => if (t != parR) = true then outRun line r (place + t.length) (starts ++ [place]) (outers ++ [outJ line starts outers place starts.length (starts.length - 1)]) else outRun line r (place + t.length) starts outers
noncomputable def outersOf (texts : List PySem.Str) : List Int := outRun (Txt.join (Str.ofString "") texts) texts 0 [] []

theorem placeAt_succ {texts : List PySem.Str} {k : Nat} {t : PySem.Str} (h : texts[k]? = some t) : placeAt texts (k + 1) = placeAt texts k + t.length := by
  unfold placeAt
  have hk : k < texts.length := (List.getElem?_eq_some_iff.mp h).1
  have e : texts[k] = t := (List.getElem?_eq_some_iff.mp h).2
  rw [List.take_succ_eq_append_getElem hk]
  simp [e]

theorem outJ_ge (line : PySem.Str) (starts outers : List Int) (place : Int) (ho : ∀ (i : Nat) x, outers[i]? = some x → -1 ≤ x ∧ x < i) : ∀ (n : Nat) (j : Int), -1 ≤ j → j < outers.length → -1 ≤ outJ line starts outers place n j ∧ outJ line starts outers place n j < outers.length
  | 0, j, h0, h1 => ⟨h0, h1⟩
  | n + 1, j, h0, h1 => by
    unfold outJ
    split
    · exact ⟨h0, h1⟩
    · split
      · exact ⟨h0, h1⟩
      · have hj : j.toNat < outers.length := by omega
        have h2 := ho j.toNat outers[j.toNat] (List.getElem?_eq_getElem hj)
        have h3 : gi outers j = outers[j.toNat] := by simp [gi, hj]
        exact outJ_ge line starts outers place ho n _ (by omega) (by omega)

theorem ss_while {C : Cx} {σ : List LV} {t : Expr} {body rest : List Stmt} {pos : Pos} {P : Out → Prop} (σ' : List LV) (Inv : Nat → List LV → Prop) (n : Nat) (h0 : Inv n σ)
    (step : ∀ n σ, Inv n σ → ∃ b, ST C σ t b ∧ (b = true → SS C σ body fun o => match o with | .next σ₁ => ∃ m, m < n ∧ Inv m σ₁ | _ => False) ∧ (b = false → σ = σ')) (h : SS C σ' rest P) : SS C σ (.While t body [] pos :: rest) P := by
  refine ss_cons (s1_while Inv n h0 fun n σ hi => ?_)
  obtain ⟨b, h1, h2, h3⟩ := step n σ hi
  refine ⟨b, h1, fun hb => ss_mono (h2 hb) fun o ho => ?_, fun hb => ?_⟩
  · cases o with
    | next _ => exact ho
    | brk _ => exact ho.elim
    | cont _ => exact ho.elim
    | ret _ => exact ho.elim
  · have := h3 hb
    subst this
    exact h

structure OutInv (texts : List PySem.Str) (R : List Int) (a b : Addr) (k : Nat) (σ : List LV) : Prop where
  st : ∃ starts outers t j, σ = [.val (.list (texts.map .str)), .val (.str (Txt.join (Str.ofString "") texts)), .own a (starts.map .int), .own b (outers.map .int), .val (.int (placeAt texts k)), t, j] ∧
    outRun (Txt.join (Str.ofString "") texts) (texts.drop k) (placeAt texts k) starts outers = R ∧ starts.length = outers.length ∧ starts.length ≤ k ∧ (∀ x ∈ starts, ∃ i, i ≤ k ∧ x = placeAt texts i) ∧ (∀ (i : Nat) x, outers[i]? = some x → -1 ≤ x ∧ x < i)

theorem outers_ok (B : Base) (hB : BOk B) (texts : List PySem.Str) (hn : texts.length ≤ 1000) (hs : ∀ t ∈ texts, t.length ≤ 1000) (hline : (Txt.join (Str.ofString "") texts).length ≤ 1000)
    (hgood : ∀ i m, i ≤ m → m ≤ texts.length → TxtOk (Txt.slice (Txt.join (Str.ofString "") texts) (some (placeAt texts i)) (some (placeAt texts m)) ++ parR)) : FnOk B false 11 (.ref 93) [.list (texts.map .str)] (dInts (outersOf texts)) := by
  obtain ⟨R, hR⟩ : ∃ R, outersOf texts = R := ⟨_, rfl⟩
  rw [hR]
  refine fn_of_body (params := ["texts"]) (locs := ["line", "starts", "outers", "place", "text", "j"]) (by rw [hB]; rfl) rfl (by rw [hB]; rfl) rfl rfl (fun vals hv => ?_) rfl (by decide +kernel) (by decide +kernel) rfl rfl (by decide +kernel) (fun L => rfl) fun L hF => ?_
  · exact len1 (P := fun vals => bindArgs _ ⟨vals, []⟩ = pure (List.zip _ vals)) (fun _ => rfl) vals hv
  · refine ss_cons (s1_assign 1 hF rfl (.inl rfl) (se_methS se_str.t (ses_cons (se_name 0 rfl rfl hF.toOk).t ses_nil) F.slot_str_join F.type_str_join (bn_join ?_)) ?_ rfl)
    · have h3 := sum_le (l := texts.map (·.length)) (k := 1000) (fun x hx => by obtain ⟨y, hy, rfl⟩ := List.mem_map.mp hx; exact hs y hy)
      have e : (Str.ofString "").length = 0 := by decide +kernel
      rw [e]
      simp at h3
      omega
    refine ss_cons (s1_own 2 hF rfl (.inl rfl) fun a => ?_)
    refine ss_cons (s1_own 3 hF rfl (.inl rfl) fun b => ?_)
    refine ss_cons (s1_assign 4 hF rfl (.inl rfl) se_int ?_ rfl)
    refine ss_cons (s1_for 5 hF rfl (.inl rfl) (si_list (se_name 0 rfl rfl hF.toOk)) (fun k σ => OutInv texts R a b k σ) ⟨[], [], .unset, .unset, rfl, hR, rfl, Nat.le_refl _, (fun x hx => nomatch hx), fun i x hx => by simp at hx⟩ ?_ ?_ (by intro _; rfl))
    · rintro k σ d hd ⟨⟨starts, outers, t₀, j₀, rfl, hrun, hlen, hlk, hst, hout⟩⟩
      obtain ⟨t, ht, rfl⟩ := strs_getElem hd
      have hk : k < texts.length := (List.getElem?_eq_some_iff.mp ht).1
      rw [drop_cons ht] at hrun
      unfold outRun at hrun
      have hpl := placeAt_succ ht
      rw [← hpl] at hrun
      have htl : t.length ≤ 1000 := hs t (List.mem_of_getElem? ht)
      refine ss_cons (s1_if (st_cmp (se_name 5 rfl rfl hF.toOk).t (se_str (x := parR)).t cmp_ne_str) (fun hb => ?_) (fun hb => ?_))
      · rw [if_pos hb] at hrun
        refine ss_cons (s1_assign 6 hF rfl (.inl rfl) (se_bin op_sub (se_callB hF.toOk rfl (k_len hB) (by decide +kernel) (ses_cons (se_own 2 rfl rfl hF.toOk) ses_nil) (bn_len_list (by simp; omega))).t se_int.t) ?_ rfl)
        rw [List.length_map]
        obtain ⟨jf, hjf⟩ : ∃ jf, outJ (Txt.join (Str.ofString "") texts) starts outers (placeAt texts k) starts.length (starts.length - 1) = jf := ⟨_, rfl⟩
        have hjb := outJ_ge (Txt.join (Str.ofString "") texts) starts outers (placeAt texts k) hout starts.length (starts.length - 1) (by omega) (by omega)
        rw [hjf] at hjb hrun
        refine ss_while [.val (.list (texts.map .str)), .val (.str (Txt.join (Str.ofString "") texts)), .own a (starts.map .int), .own b (outers.map .int), .val (.int (placeAt texts k)), .val (.str t), .val (.int jf)] (fun n σ => ∃ j : Int, σ = [.val (.list (texts.map .str)), .val (.str (Txt.join (Str.ofString "") texts)), .own a (starts.map .int), .own b (outers.map .int), .val (.int (placeAt texts k)), .val (.str t), .val (.int j)] ∧ -1 ≤ j ∧ j < starts.length ∧ (j + 1).toNat ≤ n ∧
          outJ (Txt.join (Str.ofString "") texts) starts outers (placeAt texts k) n j = jf) starts.length ⟨starts.length - 1, rfl, by omega, by omega, by omega, hjf⟩ ?_ ?_
        · rintro n σ ⟨j, rfl, h0, h1, hm, hj⟩
          by_cases hneg : j < 0
          · refine ⟨false, st_of_eq (st_and (b := true) (st_cmp (se_name 6 rfl rfl hF.toOk).t se_int.t cmp_ge_int) (fun hb => by simp at hb; omega)) (by simp; omega), (fun hb => nomatch hb), fun _ => ?_⟩
            have e : j = jf := by
              rw [← hj]
              cases n with
              | zero => rfl
              | succ n => rw [outJ, if_pos hneg]
            rw [e]
          · have hj0 : 0 ≤ j := by omega
            obtain ⟨i, hik, hgi⟩ := hst _ (mem_gi (ws := starts) hj0 h1)
            have hg := hgood i k hik (by omega)
            rw [← hgi] at hg
            refine ⟨!closesOf (Txt.slice (Txt.join (Str.ofString "") texts) (some (gi starts j)) (some (placeAt texts k)) ++ parR), st_of_eq (st_and (a := decide (0 ≤ j)) (st_cmp (se_name 6 rfl rfl hF.toOk).t se_int.t cmp_ge_int) (fun _ => st_not (st_val (se_callF hF.toOk rfl (by show nsIn B.K mainGlobals "_check_parenthesis" = some (some (.ref 57)); rw [hB]; rfl) (by show B.K.lookup 57 = _; rw [hB]; rfl) rfl
              (ses_cons (se_bin (op_add_str ?_) (se_str_slice (se_name 1 rfl rfl hF.toOk).t (sp_some (se_item (se_own 2 rfl rfl hF.toOk) (se_name 6 rfl rfl hF.toOk).t hj0 (gi_get hj0 h1) (by omega)).t) (sp_some (se_name 4 rfl rfl hF.toOk).t) (by omega)).t (se_str (x := parR)).t).t ses_nil) (paren_ok B hB _ hg.len hg.fin hg.len' hg.fin') (show 10 ≤ 10 from by decide) (.inr rfl) (.inl rfl)).t tr_bool))) (by simp [hj0]), fun hb => ?_, fun hb => ?_⟩
            · have := Txt.slice_le (Txt.join (Str.ofString "") texts) (some (gi starts j)) (some (placeAt texts k))
              have e : parR.length = 1 := by decide +kernel
              omega
            · have hjl : j.toNat < outers.length := by omega
              have h2 := hout j.toNat outers[j.toNat] (List.getElem?_eq_getElem hjl)
              have h3 : gi outers j = outers[j.toNat] := by simp [gi, hjl]
              refine ss_cons (s1_assign 6 hF rfl (.inl rfl) (se_item (se_own 3 rfl rfl hF.toOk) (se_name 6 rfl rfl hF.toOk).t hj0 (gi_get hj0 (by omega)) (by omega)) (ss_nil ?_) rfl)
              cases n with
              | zero => omega
              | succ n =>
                refine ⟨n, Nat.lt_succ_self _, gi outers j, rfl, by omega, by omega, by omega, ?_⟩
                rw [← hj, outJ, if_neg hneg, if_neg (by simpa using hb)]
            · have e : j = jf := by
                rw [← hj]
                cases n with
                | zero => rfl
                | succ n => rw [outJ, if_neg hneg, if_pos (by simpa using hb)]
              rw [e]
        · refine ss_cons (s1_append 2 hF rfl rfl (se_name 4 rfl rfl hF.toOk) (by simp; omega) ?_)
          refine ss_cons (s1_append 3 hF rfl rfl (se_name 6 rfl rfl hF.toOk) (by simp; omega) (ss_nil ?_))
          refine ss_cons (s1_aug 4 hF rfl (.inl rfl) rfl (se_callB hF.toOk rfl (k_len hB) (by decide +kernel) (ses_cons (se_name 5 rfl rfl hF.toOk).t ses_nil) (bn_len_str (by omega))) iop_add (ss_nil ?_))
          simp only [← hpl]
          refine ⟨starts ++ [placeAt texts k], outers ++ [jf], _, _, by rw [List.map_append, List.map_append]; rfl, hrun, by simp [hlen], by simp; omega, fun x hx => ?_, fun i x hx => ?_⟩
          · rcases List.mem_append.mp hx with h | h
            · obtain ⟨i, hi, e⟩ := hst x h
              exact ⟨i, by omega, e⟩
            · simp at h
              exact ⟨k, by omega, h⟩
          · rcases Nat.lt_or_ge i outers.length with h | h
            · rw [List.getElem?_append_left h] at hx
              exact hout i x hx
            · have hi : i = outers.length := by
                have := (List.getElem?_eq_some_iff.mp hx).1
                simp at this; omega
              subst hi
              simp at hx
              subst hx
              exact ⟨hjb.1, hjb.2⟩
      · rw [if_neg (by rw [hb]; decide)] at hrun
        refine ss_nil ?_
        refine ss_cons (s1_aug 4 hF rfl (.inl rfl) rfl (se_callB hF.toOk rfl (k_len hB) (by decide +kernel) (ses_cons (se_name 5 rfl rfl hF.toOk).t ses_nil) (bn_len_str (by omega))) iop_add (ss_nil ?_))
        simp only [← hpl]
        exact ⟨starts, outers, _, _, rfl, hrun, hlen, by omega, fun x hx => let ⟨i, hi, e⟩ := hst x hx; ⟨i, by omega, e⟩, hout⟩
    · rintro σ ⟨⟨starts, outers, t₀, j₀, rfl, hrun, hlen, hlk, hst, hout⟩⟩
      rw [List.length_map, List.drop_eq_nil_of_le (Nat.le_refl _)] at hrun
      unfold outRun at hrun
      subst hrun
      exact ss_nil (ss_cons (s1_return (se_own 3 rfl rfl hF.toOk) rfl))
end Mine
end

section
set_option maxRecDepth 100000
namespace Mine
open PySem.Calls PySem.Builtin PySem.Builtin.Str

noncomputable def vgo : Int → Int → List Int → Option (Int × Nat)
  | val, b, [] => if (Builtin.bitAnd b 64 != 0) = true then none else some (val, 0)
  | val, b, c :: r => if (Builtin.bitAnd b 64 != 0) = true then (if val.natAbs < 2 ^ 64 then (vgo (Builtin.bitOr (val * 2 ^ 6) (Builtin.bitAnd c 63)) c r).map fun y => (y.1, y.2 + 1) else none) else some (val, 0)
noncomputable def vint : List Int → Option (Int × Nat)
  | [] => none
  | b :: r => (vgo (Builtin.bitAnd b 63) b r).map fun y => (y.1, y.2 + 1)

section
variable {C : Cx} {σ : List LV} {A : Around} {hb : Heap} {s : Shared} {E : Value → Shared → Prop}
theorem i_assign {x z : PySem.Str} {px np zp cp pos : Pos} {Q : Flow → Shared → Prop} {I l : Addr} {i : Nat} {items : List Int} {n : Int} (ix iz : Nat) (hF : C.Fn) (hi : C.vars[ix]? = some x) (hx : C.env.kindOf x = some .local ∨ C.env.kindOf x = some .cell) (hz : C.vars[iz]? = some z) (hnx : C.env.kindOf "next" = some .globalImplicit) (hm : nsIn C.K mainGlobals "next" = some none)
    (hv : σ[iz]? = some (.val (.thing (.ref I)))) (hA : AOK C.n A) (hG : GC C.K C.mg C.mb hb) (R : Rel C.env C.vars hb σ s.heap) (t : It hb s.heap I l i items) (hxi : items[i]? = some n)
    (k : ∀ s', Mv C.q s s' → Rel C.env C.vars hb (σ.set ix (.val (.int n))) s'.heap → It hb s'.heap I l (i + 1) items → Q .next s')
    (hd : (z == ("__debug__" : PySem.Str)) = false := by decide +kernel) (hn : (z == ("__classdict__" : PySem.Str)) = false := by decide +kernel) (hs : swapsWith (.Call (.Name "next" np) [.Name z zp] [] cp) (some (.Name x px)) pos.line C.env = pure false := by rfl) :
    wpAny (model C.prog C.w) A (exec (.Assign [.Name x px] (.Call (.Name "next" np) [.Name z zp] [] cp) pos) C.env) Q E s := by
  refine wpAny_Assign_Name (i_next iz hF hz hnx hm hv hA hG R t hxi (fun h' tk v hk R' t' r' => ?_) hd hn) hs
  obtain ⟨h₁, k1, R₁, good, _, _⟩ := R'.rebase hF.func
  refine store_val (s := { s with heap := h', toks := tk }) R₁ hF.kind hF.func hi hF.nd hx r' fun h₂ tk₂ R₂ => ?_
  exact k _ Mv.heap (R₂.under k1) (t'.keep fun o e => R₂.keep I o (good I o e (hF.fielded R' t'.fielded)))
end

theorem getElem_of_drop {α : Type} {l r : List α} {a : α} {i : Nat} (h : l.drop i = a :: r) : l[i]? = some a ∧ l.drop (i + 1) = r := by
  have h1 := congrArg (·[0]?) h
  simp at h1
  refine ⟨h1, ?_⟩
  have := congrArg List.tail h
  rwa [List.tail_cons, List.tail_drop] at this

/-- where the loop of _parse_varint stands -/
structure PAt (C : Cx) (hb : Heap) (I l : Addr) (items : List Int) (i m : Nat) (x : Int) (s : Shared) (n : Nat) (s' : Shared) : Prop where
  st : ∃ val b kk, vgo val b (items.drop (i + 1 + kk)) = some (x, n) ∧ kk + n = m ∧ Rel C.env C.vars hb [.val (.thing (.ref I)), .val (.int b), .val (.int val)] s'.heap ∧ It hb s'.heap I l (i + 1 + kk) items ∧ Mv true s s'
theorem parse_ok (B : Base) (hB : BOk B) {A : Around} {s : Shared} {Q : Value → Shared → Prop} {E : Value → Shared → Prop} {I l : Addr} {hb : Heap} {items : List Int} {i m : Nat} {x : Int} (hA : AOK 2 A) (hG : GC B.K B.mg B.mb hb) (hsub : ∀ b o, hb.get? b = some o → s.heap.get? b = some o)
    (t : It hb s.heap I l i items) (hv : vint (items.drop i) = some (x, m)) (k : ∀ s' tk, (∀ b o, b ≠ I → s.heap.get? b = some o → s'.heap.get? b = some o) → It hb s'.heap I l (i + m) items → Mv true s s' → Q (.int x tk) s') :
    wpAny (model B.prog B.w) A (call (.ref 29) [.ref I]) Q E s := by
  refine call_body (q := true) (params := ["iterator"]) (locs := ["b", "val"]) (ds := [.thing (.ref I)]) (by rw [hB]; rfl) rfl (by rw [hB]; rfl) rfl rfl (fun vals hv => ?_) rfl (by decide +kernel) (by decide +kernel) rfl rfl (by decide +kernel) (fun L => rfl) rfl rfl rfl A s Q E _ hA (hG.keeps hsub) (RDs.cons (by unfold RD; rfl) RDs.nil) fun L s₁ E' hF hA' R₀ mv => ?_
  · exact len1 (P := fun vals => bindArgs _ ⟨vals, []⟩ = pure (List.zip _ vals)) (fun _ => rfl) vals hv
  have hsub' : ∀ b o, hb.get? b = some o → (without s.heap (· = I)).get? b = some o := fun b o e => by
    rw [without_good (bad := (· = I)) (fun e' => by rw [e', t.new] at e; cases e)]
    exact hsub b o e
  have hbelow : ∀ b o, (without s.heap (· = I)).get? b = some o → s.heap.get? b = some o := fun b o e => by
    by_cases hb' : b = I
    · rw [without_bad (bad := (· = I)) hb'] at e; cases e
    · rwa [without_good (bad := (· = I)) hb'] at e
  have R := R₀.under hbelow
  have G : GC B.K B.mg B.mb (without s.heap (· = I)) := hG.keeps hsub'
  have tt : It (without s.heap (· = I)) s₁.heap I l i items := ⟨t.iter.at fun o e => R₀.keep I o e, let ⟨vs, h1, h2⟩ := t.list; ⟨vs, isList_keep hsub' h1, h2.keep hsub'⟩, without_bad (bad := (· = I)) rfl⟩
  have done : ∀ s' tk, It (without s.heap (· = I)) s'.heap I l (i + m) items → Mv true s s' → (∀ b o, (without s.heap (· = I)).get? b = some o → s'.heap.get? b = some o) → Q (.int x tk) s' := fun s' tk t' mv' kp => by
    refine k s' tk (fun b o hbI e => kp b o ?_) ⟨t'.iter, t.list, t.new⟩ mv'
    rw [without_good (bad := (· = I)) hbI]; exact e
  obtain ⟨b₀, r₀, hdrop⟩ : ∃ b r, items.drop i = b :: r := by
    cases h : items.drop i with
    | nil => rw [h] at hv; cases hv
    | cons b r => exact ⟨b, r, rfl⟩
  obtain ⟨hi₀, hd₁⟩ := getElem_of_drop hdrop
  rw [hdrop] at hv
  simp only [vint, Option.map_eq_some_iff] at hv
  obtain ⟨⟨x', m'⟩, hgo, hxm⟩ := hv
  cases hxm
  rw [← hd₁] at hgo
  refine wpAny_execs_cons (i_assign 1 0 hF rfl (.inl rfl) rfl rfl (k_next hB) rfl hA' G R tt hi₀ fun s₂ mv₂ R₂ t₂ => ?_)
  refine wpAny_execs_cons (i_stmt hF (s1_assign 2 hF rfl (.inl rfl) (se_bin op_and (se_name 1 rfl rfl hF.toOk).t se_int.t) rfl rfl) hA' G R₂ t₂ fun s₃ mv₃ _ R₃ t₃ => ?_)
  refine wpAny_execs_cons (wpAny_While (codeAny_whileLoop (PAt _ (without s.heap (· = I)) I l items i m' x' s) ?_ m' ⟨⟨_, _, 0, hgo, by omega, R₃, t₃, (mv.trans mv₂).trans mv₃⟩⟩))
  rintro n s' ⟨⟨val, b, kk, hgo', hkn, R', t', mv'⟩⟩
  cases hb64 : (Builtin.bitAnd b 64 != 0) with
  | true =>
    refine (st_of_eq (st_val (se_bin op_and (se_name 1 rfl rfl hF.toOk).t se_int.t).t tr_int) hb64).run _ _ s' _ _ hA' G R' fun s₄ x₄ => ?_
    simp only [if_true]
    have R₄ := R'.ext x₄.keep
    have t₄ := t'.keep fun o e => x₄.keep I o e
    cases hr : items.drop (i + 1 + kk) with
    | nil => rw [hr] at hgo'; unfold vgo at hgo'; rw [if_pos hb64] at hgo'; cases hgo'
    | cons c r =>
      obtain ⟨hic, hdc⟩ := getElem_of_drop hr
      rw [hr] at hgo'
      unfold vgo at hgo'
      rw [if_pos hb64] at hgo'
      by_cases hbig : val.natAbs < 2 ^ 64
      · rw [if_pos hbig] at hgo'
        simp only [Option.map_eq_some_iff] at hgo'
        obtain ⟨⟨x2, n'⟩, hgo'', hxn⟩ := hgo'
        cases hxn
        rw [← hdc] at hgo''
        refine wpAny_execs_cons (i_stmt hF (s1_aug 2 hF rfl (.inl rfl) rfl se_int (iop_shl (by decide) (by decide) hbig) rfl) hA' G R₄ t₄ fun s₅ mv₅ _ R₅ t₅ => ?_)
        refine wpAny_execs_cons (i_assign 1 0 hF rfl (.inl rfl) rfl rfl (k_next hB) rfl hA' G R₅ t₅ hic fun s₆ mv₆ R₆ t₆ => ?_)
        refine wpAny_execs_cons (i_stmt hF (s1_aug 2 hF rfl (.inl rfl) rfl (se_bin op_and (se_name 1 rfl rfl hF.toOk).t se_int.t) iop_or rfl) hA' G R₆ t₆ fun s₇ mv₇ _ R₇ t₇ => ?_)
        exact wpAny_execs_nil ⟨n', Nat.lt_succ_self _, ⟨_, _, kk + 1, hgo'', by omega, R₇, t₇, (((mv'.trans x₄.mv).trans mv₅).trans mv₆).trans mv₇⟩⟩
      · rw [if_neg hbig] at hgo'; cases hgo'
  | false =>
    refine (st_of_eq (st_val (se_bin op_and (se_name 1 rfl rfl hF.toOk).t se_int.t).t tr_int) hb64).run _ _ s' _ _ hA' G R' fun s₄ x₄ => ?_
    simp only [Bool.false_eq_true, if_false]
    have R₄ := R'.ext x₄.keep
    have t₄ := t'.keep fun o e => x₄.keep I o e
    have e : val = x' ∧ n = 0 := by
      have hnb : ¬ (Builtin.bitAnd b 64 != 0) = true := by rw [hb64]; decide
      cases hr : items.drop (i + 1 + kk) with
      | nil => rw [hr] at hgo'; unfold vgo at hgo'; rw [if_neg hnb] at hgo'; cases hgo'; exact ⟨rfl, rfl⟩
      | cons c r => rw [hr] at hgo'; unfold vgo at hgo'; rw [if_neg hnb] at hgo'; cases hgo'; exact ⟨rfl, rfl⟩
    obtain ⟨rfl, rfl⟩ := e
    refine wpAny_execs_nil (wpAny_execs_cons ?_)
    refine wpAny_Return_some ((se_name 2 rfl rfl hF.toOk).run _ _ s₄ _ _ hA' G R₄ fun v s₅ x₅ r₅ => ?_)
    obtain ⟨tk, rfl⟩ := rd_int_inv r₅
    refine done s₅ tk ?_ ((mv'.trans x₄.mv).trans x₅.mv) ((R₄.ext x₅.keep).keep)
    have := t₄.keep (h' := s₅.heap) fun o e => x₅.keep I o e
    rw [show i + (m' + 1) = i + 1 + kk by omega]
    exact this
end Mine
end

section
set_option maxRecDepth 100000
namespace Mine
open PySem.Calls PySem.Builtin PySem.Builtin.Str

noncomputable def readRun : Nat → List Int → List Int → Int → Option (List Int)
  | 0, _, ws, closed => if closed < 5 then none else some ws
  | n + 1, os, ws, closed => if closed < 5 then (match vint os with
      | none => none
      | some (x, m) => if (x.fmod 64 == 40) = true then readRun n (os.drop m) (ws ++ [x.fdiv 64]) closed else readRun n (os.drop m) ws (closed + 1)) else some ws
noncomputable def octsOf (x : PySem.Str) : List Int := x.cps.toList.map fun (c : Nat) => (c : Int)
noncomputable def fOrd : D → D
  | .str x => .int ((x.cps.getD 0 0 : Nat) : Int)
  | d => d
theorem map_fOrd (x : PySem.Str) : (signs x).map fOrd = (octsOf x).map .int := by
  simp [signs, octsOf, fOrd]

section
variable {C : Cx} {σ : List LV} {A : Around} {hb : Heap} {s : Shared} {E : Value → Shared → Prop}
theorem i_own {x : PySem.Str} {px lp pos : Pos} {Q : Flow → Shared → Prop} {I l : Addr} {i : Nat} {items : List Int} (ix : Nat) (hF : C.Fn) (hi : C.vars[ix]? = some x) (hx : C.env.kindOf x = some .local ∨ C.env.kindOf x = some .cell) (hA : AOK C.n A) (hG : GC C.K C.mg C.mb hb) (R : Rel C.env C.vars hb σ s.heap) (t : It hb s.heap I l i items)
    (k : ∀ a s', Mv C.q s s' → Rel C.env C.vars hb (σ.set ix (.own a [])) s'.heap → It hb s'.heap I l i items → Q .next s') : wpAny (model C.prog C.w) A (exec (.Assign [.Name x px] (.List [] lp) pos) C.env) Q E s := by
  obtain ⟨h₁, k1, R₁, good, _, _⟩ := R.rebase hF.func
  refine (s1_own (P := fun o => ∃ a, o = .next (σ.set ix (.own a []))) ix hF hi hx fun a => ⟨a, rfl⟩).run A h₁ s _ E hA (hG.keeps k1) R₁ fun f s' x e => ?_
  cases f with
  | next =>
    obtain ⟨σ₁, ⟨a, h1⟩, R'⟩ := e
    cases h1
    exact k a s' x (R'.under k1) (t.keep fun o e => R'.keep I o (good I o e (hF.fielded R t.fielded)))
  | brk => obtain ⟨_, ⟨_, h1⟩, _⟩ := e; cases h1
  | cont => obtain ⟨_, ⟨_, h1⟩, _⟩ := e; cases h1
  | ret v => obtain ⟨_, ⟨_, h1⟩, _⟩ := e; cases h1
end

theorem callWith_fn {C : Cx} {A : Around} {s : Shared} {E : Value → Shared → Prop} {Q : Value → Shared → Prop} {fa : Addr} {o : Obj} {fd : FuncData} {pos : Pos} {tt : Sem Value} {args : List (Bool × Sem Value)} (hK : C.K.lookup fa = some o) (ho : o.data = .func fd)
    (h : wpAny (model C.prog C.w) A (spliced ((false, tt) :: args)) (fun vs s' => C.K.In s'.heap ∧ wpAny (model C.prog C.w) A (call (.ref fa) vs) Q E s') E s) : wpAny (model C.prog C.w) A (callWith pos (.ref fa) [] ((false, tt) :: args) []) Q E s := by
  refine callWith_function (o := o) (fd := fd) (evalArgs_plain ?_)
  exact wpAny_mono h (fun vs s' hh => ⟨⟨hh.1 fa o hK, ho⟩, hh.2⟩) fun _ _ x => x

structure ReadInv (left : PySem.Str) (I a : Addr) (R : List Int) (octs : List Int) (n : Nat) (σ : List LV) (i : Nat) : Prop where
  st : ∃ ws closed z, σ = [.val (.str left), .val (.thing (.ref I)), .own a (ws.map .int), .val (.int closed), z] ∧ readRun n (octs.drop i) ws closed = some R ∧ ws.length + n ≤ 1000

/-- where the loop of _law_read stands -/
structure RAt (C : Cx) (hb : Heap) (I l a : Addr) (left : PySem.Str) (R : List Int) (s : Shared) (n : Nat) (s' : Shared) : Prop where
  st : ∃ σ i, ReadInv left I a R (octsOf left) n σ i ∧ Rel C.env C.vars hb σ s'.heap ∧ It hb s'.heap I l i (octsOf left) ∧ Mv true s s'
theorem read_ok (B : Base) (hB : BOk B) (left : PySem.Str) (R : List Int) (N : Nat) (hN : N ≤ 1000) (hlen : left.length ≤ 1000) (hrun : readRun N (octsOf left) [] 0 = some R) : FnOk B true 3 (.ref 86) [.str left] (dInts R) := by
  refine fn_of_body (params := ["left"]) (locs := ["octets", "worths", "closed", "number"]) (by rw [hB]; rfl) rfl (by rw [hB]; rfl) rfl rfl (fun vals hv => ?_) rfl (by decide +kernel) (by decide +kernel) rfl rfl (by decide +kernel) (fun L => rfl) fun L hF => ?_
  · exact len1 (P := fun vals => bindArgs _ ⟨vals, []⟩ = pure (List.zip _ vals)) (fun _ => rfl) vals hv
  constructor; intro A h₀ s Q E hA hG hR hQ
  -- octets = iter([..])
  refine wpAny_execs_cons (wpAny_Assign_Name (wpAny_Call_NameR (wp_builtin hF.toOk rfl (hG.keeps hR.keep) (k_iter hB) boot_iter ?_)) (by rfl))
  refine callWith_builtin rfl (evalArgs_plain (spliced_cons ?_))
  refine (se_of_eq (b' := .list ((octsOf left).map .int)) (se_map fOrd (CompOk.plain (by decide +kernel) (by decide +kernel) rfl (by decide +kernel) (by decide +kernel)) (si_str (se_name 0 rfl rfl hF.toOk).t) ?_ ?_ ?_ ?_) ?_).run _ h₀ s _ _ hA hG hR fun v s₁ x₁ r₁ => spliced_nil ?_
  · intro d hd
    obtain ⟨c, _, rfl⟩ := List.mem_map.mp hd; rfl
  · intro M d hd
    obtain ⟨c, _, rfl⟩ := List.mem_map.mp hd
    exact se_callB ⟨rfl, rfl, rfl⟩ rfl (k_ord hB) (by decide +kernel) (ses_cons (se_name 0 rfl rfl ⟨rfl, rfl, rfl⟩).t ses_nil) bn_ord
  · intro d hd
    obtain ⟨c, _, rfl⟩ := List.mem_map.mp hd; rfl
  · simp [signs]; exact Nat.le_trans hlen (by decide)
  · rw [map_fOrd]
  obtain ⟨l, vs, rfl, hlW, hl, hvs⟩ := rd_list_inv r₁
  refine call_iter_list hl ?_
  have R₁ := hR.ext x₁.keep
  obtain ⟨hb, kb, Rb, kgood, kunder, kRD, kRDs⟩ := hF.base R₁
  have hGb := hG.keeps kb
  have hlb : hb.IsList l vs.toArray := by
    obtain ⟨o, ho, hc, n, hd⟩ := hl
    exact ⟨o, kgood l o ho (R₁.seqGood (hF.cells R₁) ⟨_, _, hd⟩ hlW ho), hc, n, hd⟩
  have hIn : hb.get? s₁.heap.objs.size = none := by
    cases e : hb.get? s₁.heap.objs.size with
    | none => rfl
    | some o => exact absurd (Heap.lt_size (kunder _ o e)) (Nat.lt_irrefl _)
  have R₂ := Rb.ext (h' := s₁.heap.push { cls := .type "list_iterator", data := .fields #[.ref l, .int 0 0] }) fun b o e => Heap.get?_push_of_some _ e
  have t₂ : It hb (s₁.heap.push { cls := .type "list_iterator", data := .fields #[.ref l, .int 0 0] }) s₁.heap.objs.size l 0 (octsOf left) := ⟨⟨_, Heap.get?_push_size _ rfl, rfl, rfl⟩, ⟨vs, hlb, kRDs _ _ hvs⟩, hIn⟩
  obtain ⟨h₁, k1, R₂', good₂, _, _⟩ := R₂.rebase hF.func
  refine store_val (s := { s₁ with heap := s₁.heap.push _ }) (d := .thing (.ref s₁.heap.objs.size)) (i := 1) R₂' hF.kind hF.func rfl hF.nd (.inl rfl) (by unfold RD; rfl) fun h₃ tk₃ R₃ => ?_
  have t₃ := t₂.keep (h' := h₃) fun o e => R₃.keep _ o (good₂ _ o e (hF.fielded R₂ t₂.fielded))
  have R₃ := R₃.under k1
  -- worths, closed
  refine wpAny_execs_cons (i_own (s := { s₁ with heap := h₃, toks := tk₃ }) 2 hF rfl (.inl rfl) hA hGb R₃ t₃ fun a s₄ mv₄ R₄ t₄ => ?_)
  refine wpAny_execs_cons (i_stmt hF (s1_assign 3 hF rfl (.inl rfl) se_int rfl rfl) hA hGb R₄ t₄ fun s₅ mv₅ _ R₅ t₅ => ?_)
  have mv₀ : Mv true s s₅ := ((x₁.mv.trans (Mv.heap (h' := h₃) (tk := tk₃))).trans mv₄).trans mv₅
  refine wpAny_execs_cons (wpAny_While (codeAny_whileLoop (RAt _ hb s₁.heap.objs.size l a left R s) ?_ N ⟨⟨_, 0, ⟨[], 0, .unset, rfl, hrun, by simpa using hN⟩, R₅, t₅, mv₀⟩⟩))
  rintro n s' ⟨⟨σ, i, ⟨ws, closed, z, rfl, hrn, hwn⟩, R', t', mv'⟩⟩
  refine (st_cmp (se_name 3 rfl rfl hF.toOk).t se_int.t cmp_lt_int).run _ _ s' _ _ hA hGb R' fun s₆ x₆ => ?_
  have R₆ := R'.ext x₆.keep
  have t₆ := t'.keep fun o e => x₆.keep _ o e
  by_cases hc : closed < 5
  · have hcd : decide (closed < (5 : Int)) = true := by simpa using hc
    simp only [hcd, if_true]
    cases n with
    | zero => unfold readRun at hrn; rw [if_pos hc] at hrn; cases hrn
    | succ n =>
    unfold readRun at hrn
    rw [if_pos hc] at hrn
    cases hvi : vint ((octsOf left).drop i) with
    | none => rw [hvi] at hrn; cases hrn
    | some y =>
    obtain ⟨x, m⟩ := y
    rw [hvi] at hrn
    dsimp only at hrn
    rw [List.drop_drop] at hrn
    -- number = _parse_varint(octets)
    refine wpAny_execs_cons (wpAny_Assign_Name (wpAny_Call_NameR (wp_global hF.toOk rfl (hGb.keeps R₆.keep) (by show nsIn B.K mainGlobals "_parse_varint" = some (some (.ref 29)); rw [hB]; rfl) ?_)) (by rfl))
    refine callWith_fn (by show B.K.lookup 29 = _; rw [hB]; rfl) rfl (spliced_cons ?_)
    obtain ⟨v, lk, r⟩ := R₆.vals 1 "octets" _ rfl rfl
    refine wpAny_Name (look_wp hF.kind lk (spliced_nil ⟨(hGb.keeps R₆.keep).k, ?_⟩) (by decide +kernel)) (by decide +kernel)
    have hve : v = .ref s₁.heap.objs.size := by unfold RD at r; exact r
    subst hve
    refine parse_ok B hB hA hGb R₆.keep t₆ hvi fun s₇ tk₇ hk₇ t₇ mv₇ => ?_
    have R₇ := R₆.away (wr := [s₁.heap.objs.size]) (h' := s₇.heap) (fun b o hbm e => hk₇ b o (by simpa using hbm) e) (fun b hbm => by simp at hbm; subst hbm; exact t₆.fielded) (fun b hbm => by simp at hbm; subst hbm; exact hIn)
    obtain ⟨h₈, k8, R₈, good₈, _, _⟩ := R₇.rebase hF.func
    refine store_val (d := .int x) (i := 4) R₈ hF.kind hF.func rfl hF.nd (.inl rfl) rd_int fun h₉ tk₉ R₉ => ?_
    have t₉ := t₇.keep (h' := h₉) fun o e => R₉.keep _ o (good₈ _ o e (hF.fielded R₇ t₇.fielded))
    have R₉ := R₉.under k8
    have mv₉ : Mv true s { s₇ with heap := h₉, toks := tk₉ } := ((mv'.trans x₆.mv).trans mv₇).trans Mv.heap
    by_cases h40 : (x.fmod 64 == 40) = true
    · rw [if_pos h40] at hrn
      refine wpAny_execs_cons (i_stmt (s := { s₇ with heap := h₉, toks := tk₉ }) hF (s1_if (b := true) (st_of_eq (st_cmp (se_bin (op_mod (by decide)) (se_name 4 rfl rfl hF.toOk).t se_int.t).t se_int.t cmp_eq_int) h40) (fun _ => ss_cons (s1_append 2 hF rfl rfl (se_bin (op_div (by decide) (by decide)) (se_name 4 rfl rfl hF.toOk).t se_int.t) (by simp; omega) (ss_nil rfl))) (fun hb => nomatch hb)) hA hGb R₉ t₉ fun s₁₀ mv₁₀ _ R₁₀ t₁₀ => ?_)
      refine wpAny_execs_nil ⟨n, Nat.lt_succ_self _, ⟨_, i + m, ⟨ws ++ [x.fdiv 64], closed, .val (.int x), by rw [List.map_append]; rfl, hrn, by simp; omega⟩, R₁₀, t₁₀, mv₉.trans mv₁₀⟩⟩
    · rw [if_neg h40] at hrn
      have h40' : (x.fmod 64 == 40) = false := by simpa using h40
      refine wpAny_execs_cons (i_stmt (s := { s₇ with heap := h₉, toks := tk₉ }) hF (s1_if (b := false) (st_of_eq (st_cmp (se_bin (op_mod (by decide)) (se_name 4 rfl rfl hF.toOk).t se_int.t).t se_int.t cmp_eq_int) h40') (fun hb => nomatch hb) (fun _ => ss_cons (s1_aug 3 hF rfl (.inl rfl) rfl se_int iop_add (ss_nil rfl)))) hA hGb R₉ t₉ fun s₁₀ mv₁₀ _ R₁₀ t₁₀ => ?_)
      refine wpAny_execs_nil ⟨n, Nat.lt_succ_self _, ⟨_, i + m, ⟨ws, closed + 1, .val (.int x), rfl, hrn, by omega⟩, R₁₀, t₁₀, mv₉.trans mv₁₀⟩⟩
  · have hcd : decide (closed < (5 : Int)) = false := by simpa using hc
    simp only [hcd, Bool.false_eq_true, if_false]
    have e : ws = R := by
      cases n with
      | zero => unfold readRun at hrn; rw [if_neg hc] at hrn; exact Option.some.inj hrn
      | succ n => unfold readRun at hrn; rw [if_neg hc] at hrn; exact Option.some.inj hrn
    subst e
    refine wpAny_execs_nil ((ss_cons (P := fun o => o = .ret (dInts ws)) (s1_return (se_own 2 rfl rfl hF.toOk) rfl)).run A hb s₆ _ _ hA hGb R₆ fun f s₇ x₇ e₇ => hQ f s₇ ((mv'.trans x₆.mv).trans x₇) ?_)
    cases f with
    | next => obtain ⟨σ₅, h5, _⟩ := e₇; cases h5
    | brk => obtain ⟨σ₅, h5, _⟩ := e₇; cases h5
    | cont => obtain ⟨σ₅, h5, _⟩ := e₇; cases h5
    | ret v => obtain ⟨d₅, h5, r₅, kp₅⟩ := e₇; cases h5; exact ⟨_, rfl, r₅, fun b o e => kp₅ b o (kb b o e)⟩
end Mine
end

section
set_option maxRecDepth 100000
set_option maxHeartbeats 4000000
namespace Mine
open PySem.Calls PySem.Builtin PySem.Builtin.Str

noncomputable def all12 : List PySem.Str := ["OPTIMIZED", "NEWLOCALS", "VARARGS", "VARKEYWORDS", "NESTED", "GENERATOR", "NOFREE", "COROUTINE", "ITERABLE_COROUTINE", "ASYNC_GENERATOR", "0x400", "0x800"]
noncomputable def spc : PySem.Str := " "
noncomputable def com : PySem.Str := ","
noncomputable def shiftOf (ns : List Int) : Int := ((gi ns 4).fdiv 1280).fmod 8
noncomputable def nameOf (sh w : Int) : PySem.Str := spc ++ listedOf (w.fmod 64 + sh - 1).toNat ++ com
noncomputable def wantOf (sh k : Int) : PySem.Str := spc ++ gs all12 (k + sh) ++ com
noncomputable def laidOf (figs : List Int) : List Int := (List.range 5).map fun (k : Nat) => 64 * gi figs k + k + 1
noncomputable def textsOf (ns : List Int) : List PySem.Str := (rowAt ns 4).map (textOf (figuresOf ns) (gi ns 4))
noncomputable def lineAll (ns : List Int) : PySem.Str := Txt.join (Str.ofString "") (textsOf ns)

structure LawOk (ns ws : List Int) (N : Nat) : Prop where
  len : ns.length = 5
  rowLt : ∀ k ∈ rowAt ns 4, k < 5
  lineLen : (lineAll ns).length ≤ 1000
  lineFin : escOpen false (lineAll ns).cps.toList = false
  leftLen : (stripOf (lineAll ns)).length ≤ 1000
  fuel : N ≤ 1000
  read : readRun N (octsOf (stripOf (lineAll ns))) [] 0 = some ws
  wsLen : ws.length = 5
  wsBound : ∀ w ∈ ws, 0 ≤ w ∧ w < 5000
  wsExp : ∀ w ∈ ws, 1 ≤ w.fmod 64 + shiftOf ns ∧ w.fmod 64 + shiftOf ns ≤ 12
  names : ws.map (nameOf (shiftOf ns)) = ((rowAt ns 4).filter fun k => decide (0 ≤ k)).map (wantOf (shiftOf ns))
  laidBound : ∀ w ∈ laidOf (figuresOf ns), 0 ≤ w ∧ w < 5000
  sub : ∀ i m, i ≤ m → m ≤ (textsOf ns).length → TxtOk (Txt.slice (lineAll ns) (some (placeAt (textsOf ns) i)) (some (placeAt (textsOf ns) m)) ++ parR)
  outLen : (outersOf (textsOf ns)).length = 5
  outBound : ∀ x ∈ outersOf (textsOf ns), -1 ≤ x ∧ x < 5
  nms : NamesOk (ws.map (nameOf (shiftOf ns)))
  ordLen : (ordersAt (ws.map (nameOf (shiftOf ns))) (outersOf (textsOf ns)) ws 4).length ≤ 1000
  ordOk : ∀ o ∈ ordersAt (ws.map (nameOf (shiftOf ns))) (outersOf (textsOf ns)) ws 4, OrdOk ws o
  due : dueGood (laidOf (figuresOf ns)) (figuresOf ns) (rowAt ns 4) []
  eq : totalOf ws (wholeOut (laidOf (figuresOf ns)) 5) (ordersAt (ws.map (nameOf (shiftOf ns))) (outersOf (textsOf ns)) ws 4) = dueRun (laidOf (figuresOf ns)) (figuresOf ns) (rowAt ns 4) [] (wholeOut (laidOf (figuresOf ns)) 5)

theorem CompOk.two {C : Cx} {σ : List LV} {scope : Scope} {x y y' : PySem.Str} {c c' : Addr} {j j' : Nat} {d d' : D} (hclos : closureFor scope C.env = pure [(y, c), (y', c')]) (hcell : ∀ y ∈ scope.names, y.2 ≠ .cell) (hkind : scope.kind = .function)
    (hnames : ∀ y ∈ scope.names, y.2 = .local → scope.names.lookup y.1 = some .local) (htgt : scope.names.lookup x = some .local) (hfree : ∀ z ∈ scope.names, z.2 = .free → z.1 = y ∨ z.1 = y') (hne : (y' == y) = false)
    (hc : C.env.cells.lookup y = some c) (hk : C.env.kindOf y = some .cell) (hr : (relabel scope C.env).names.lookup y = some .cell) (hj : C.vars[j]? = some y) (hv : σ[j]? = some (.val d))
    (hc' : C.env.cells.lookup y' = some c') (hk' : C.env.kindOf y' = some .cell) (hr' : (relabel scope C.env).names.lookup y' = some .cell) (hj' : C.vars[j']? = some y') (hv' : σ[j']? = some (.val d')) : CompOk C σ scope [(y, c), (y', c')] x [y, y'] [.val d, .val d'] := by
  have hl : ([(y, c), (y', c')] : List (PySem.Str × Addr)).lookup y' = some c' := by simp [List.lookup, hne]
  refine ⟨hclos, hcell, hkind, hnames, htgt, fun z hz => ?_, fun z hz hzc => ?_, fun z hz => ?_, fun i z lv hi hlv => ?_, rfl⟩
  · simp at hz
    rcases hz with rfl | rfl
    · exact hc
    · exact hc'
  · unfold relabel at hz
    simp only [List.mem_map] at hz
    obtain ⟨⟨n, k⟩, hm, e⟩ := hz
    by_cases hb : (k == NameKind.free && C.env.scope.kind == .function && C.env.kindOf n == some .cell) = true
    · rw [if_pos hb] at e
      simp only [Bool.and_eq_true, beq_iff_eq] at hb
      have := hfree _ hm hb.1.1
      cases e
      simp only at this
      rcases this with rfl | rfl
      · simp
      · rw [hl]; rfl
    · rw [if_neg hb] at e
      cases e
      exact absurd hzc (hcell _ hm)
  · simp at hz
    rcases hz with rfl | rfl
    · exact ⟨hr, hk, by simp⟩
    · exact ⟨hr', hk', by rw [hl]; rfl⟩
  · match i, hi, hlv with
    | 0, hi, hlv => simp at hi hlv; subst hi; subst hlv; exact ⟨j, d, hj, hv, rfl⟩
    | 1, hi, hlv => simp at hi hlv; subst hi; subst hlv; exact ⟨j', d', hj', hv', rfl⟩

noncomputable def fNames (sh : Int) : D → D
  | .int w => .str (nameOf sh w)
  | d => d
noncomputable def fWant (sh : Int) : D → D
  | .int w => .str (wantOf sh w)
  | d => d
noncomputable def pNonneg : D → Bool
  | .int k => decide (0 ≤ k)
  | _ => false
theorem map_fNames (sh : Int) (ws : List Int) : (ws.map D.int).map (fNames sh) = (ws.map (nameOf sh)).map .str := by simp [fNames, Function.comp_def]
theorem map_fWant (sh : Int) (ws : List Int) : ((ws.map D.int).filter pNonneg).map (fWant sh) = ((ws.filter fun k => decide (0 ≤ k)).map (wantOf sh)).map .str := by
  induction ws with
  | nil => rfl
  | cons a l ih =>
    by_cases h : 0 ≤ a
    · simp only [List.map_cons, List.filter_cons, pNonneg, h, decide_true, if_true, ih, fWant]
    · simp only [List.map_cons, List.filter_cons, pNonneg, h, decide_false, Bool.false_eq_true, if_false, ih]
theorem listed_len20 : ∀ m, m < 12 → (listedOf m).length ≤ 20 := by decide +kernel
theorem all12_len : ∀ y ∈ all12, y.length ≤ 20 := by decide +kernel
theorem figures_len (ns : List Int) : (figuresOf ns).length = 5 := by simp [figuresOf]
theorem figures_bound (ns : List Int) : ∀ x ∈ figuresOf ns, 0 ≤ x ∧ x < 64 := fun x hx => by
  unfold figuresOf at hx
  rcases List.mem_cons.mp hx with rfl | h
  · exact ⟨Int.fmod_nonneg_of_pos _ (by decide), Int.fmod_lt_of_pos _ (by decide)⟩
  · obtain ⟨k, _, rfl⟩ := List.mem_map.mp h
    exact ⟨Int.fmod_nonneg_of_pos _ (by decide), Int.fmod_lt_of_pos _ (by decide)⟩
theorem shift_bound (ns : List Int) : 0 ≤ shiftOf ns ∧ shiftOf ns < 8 := ⟨Int.fmod_nonneg_of_pos _ (by decide), Int.fmod_lt_of_pos _ (by decide)⟩
theorem half_pow {e : Int} (h : 1 ≤ e) : ((2 : Int) ^ e.toNat).fdiv 2 = 2 ^ (e - 1).toNat := by
  obtain ⟨m, rfl⟩ : ∃ m : Nat, e = m + 1 := ⟨(e - 1).toNat, by omega⟩
  rw [show ((m : Int) + 1).toNat = m + 1 by omega, show ((m : Int) + 1 - 1).toNat = m by omega, Int.pow_succ]
  exact Int.mul_fdiv_cancel _ (by decide)

theorem le_sum {x : Nat} : ∀ {l : List Nat}, x ∈ l → x ≤ l.sum
  | a :: l, h => by
    rcases List.mem_cons.mp h with rfl | h
    · simp
    · have := le_sum h; simp; omega

theorem law_ok (B : Base) (hB : BOk B) (script ws : List Int) (N : Nat) (hs : script.length ≤ 1000) (O : LawOk (numbersOf script) ws N) : FnOk B false 12 (.ref 124) [dInts script] (.bool true) := by
  refine fn_of_body (params := ["script"]) (locs := ["numbers", "row", "figures", "texts", "shift", "listed", "worths", "names", "laid", "whole", "orders"]) (by rw [hB]; rfl) rfl (by rw [hB]; rfl) rfl rfl (fun vals hv => ?_) rfl (by decide +kernel) (by decide +kernel) rfl rfl (by decide +kernel) (fun L => rfl) fun L hF => ?_
  · exact len1 (P := fun vals => bindArgs _ ⟨vals, []⟩ = pure (List.zip _ vals)) (fun _ => rfl) vals hv
  obtain ⟨ns, hns⟩ : ∃ ns, numbersOf script = ns := ⟨_, rfl⟩
  rw [hns] at O
  have hl := O.len
  have hfl := figures_len ns
  have hfb := figures_bound ns
  have hsh := shift_bound ns
  have hrl := rowAt_len ns 4
  have htn : (textsOf ns).length ≤ 1000 := by unfold textsOf; rw [List.length_map]; omega
  have hsum : ((textsOf ns).map (·.length)).sum ≤ 1000 := by
    have h1 := O.lineLen
    have h2 : (lineAll ns).length = ((textsOf ns).map (·.length)).sum + ((textsOf ns).length - 1) * (Str.ofString "").length := size_glued _ _
    have e : (Str.ofString "").length = 0 := by decide +kernel
    rw [e] at h2
    omega
  have htl : ∀ t ∈ textsOf ns, t.length ≤ 1000 := fun t ht => Nat.le_trans (le_sum (List.mem_map_of_mem (f := (·.length)) ht)) hsum
  have hjoin : ((textsOf ns).map (·.length)).sum + (textsOf ns).length * (Str.ofString "").length ≤ 16777216 := by
    have e : (Str.ofString "").length = 0 := by decide +kernel
    rw [e]; omega
  have h4 : (ns.map D.int)[(4 : Int).toNat]? = some (.int (gi ns 4)) := gi_get (by decide) (by omega)
  refine ss_cons (s1_assign 1 hF rfl (.inl rfl) (se_of_eq (b' := dInts ns) (se_callF hF.toOk rfl (by show nsIn B.K mainGlobals "_law_numbers" = some (some (.ref 62)); rw [hB]; rfl) (by show B.K.lookup 62 = _; rw [hB]; rfl) rfl (ses_cons (se_name 0 rfl rfl hF.toOk).t ses_nil) (numbers_ok B hB script hs) (show 2 ≤ 11 from by decide) (.inl rfl) (.inr rfl)) (by rw [hns])) ?_ rfl)
  refine ss_cons (s1_assign 2 hF rfl (.inl rfl) (se_callF hF.toOk rfl (by show nsIn B.K mainGlobals "_law_row" = some (some (.ref 69)); rw [hB]; rfl) (by show B.K.lookup 69 = _; rw [hB]; rfl) rfl (ses_cons (se_name 1 rfl rfl hF.toOk).t ses_nil) (row_ok B hB ns hl) (show 2 ≤ 11 from by decide) (.inl rfl) (.inr rfl)) ?_ rfl)
  refine ss_cons (s1_assign 3 hF rfl (.inr rfl) (se_callF hF.toOk rfl (by show nsIn B.K mainGlobals "_law_figures" = some (some (.ref 74)); rw [hB]; rfl) (by show B.K.lookup 74 = _; rw [hB]; rfl) rfl (ses_cons (se_name 1 rfl rfl hF.toOk).t ses_nil) (figures_ok B hB ns hl) (show 2 ≤ 11 from by decide) (.inl rfl) (.inr rfl)) ?_ rfl)
  refine ss_cons (s1_assign 4 hF rfl (.inl rfl) (se_of_eq (b' := .list ((textsOf ns).map .str)) (se_callF hF.toOk rfl (by show nsIn B.K mainGlobals "_law_texts" = some (some (.ref 81)); rw [hB]; rfl) (by show B.K.lookup 81 = _; rw [hB]; rfl) rfl (ses_cons (se_name 2 rfl rfl hF.toOk).t (ses_cons (se_name 3 rfl rfl hF.toOk).t (ses_cons (se_item (se_name 1 rfl rfl hF.toOk).t se_int.t (by decide) h4 (by decide)).t ses_nil))) (texts_ok B hB (rowAt ns 4) (figuresOf ns) (gi ns 4) (by omega) O.rowLt hfl hfb) (show 2 ≤ 11 from by decide) (.inl rfl) (.inr rfl)) rfl) ?_ rfl)
  refine ss_cons (s1_assign 5 hF rfl (.inr rfl) (se_bin (op_mod (by decide)) (se_bin (op_div (by decide) (by decide)) (se_item (se_name 1 rfl rfl hF.toOk).t se_int.t (by decide) h4 (by decide)).t se_int.t).t se_int.t) ?_ rfl)
  refine ss_cons (s1_assign 6 hF rfl (.inr rfl) (se_of_eq (b' := .list ((all12.take 7).map .str)) (se_list (sel_cons se_str (sel_cons se_str (sel_cons se_str (sel_cons se_str (sel_cons se_str (sel_cons se_str (sel_one se_str)))))))) rfl) ?_ rfl)
  refine ss_cons (s1_assign 6 hF rfl (.inr rfl) (se_of_eq (b' := .list (all12.map .str)) (se_bin (op_add_list (by decide +kernel)) (se_name 6 rfl rfl hF.toOk).t (se_of_eq (b' := .list ((all12.drop 7).map .str)) (se_list (sel_cons se_str (sel_cons se_str (sel_cons se_str (sel_cons se_str (sel_one se_str)))))) rfl).t) rfl) ?_ rfl)
  refine ss_cons (s1_assign 7 hF rfl (.inl rfl) (se_callF hF.toOk rfl (by show nsIn B.K mainGlobals "_law_read" = some (some (.ref 86)); rw [hB]; rfl) (by show B.K.lookup 86 = _; rw [hB]; rfl) rfl (ses_cons (se_callF hF.toOk rfl (by show nsIn B.K mainGlobals "_strip_quoted_realnames" = some (some (.ref 50)); rw [hB]; rfl) (by show B.K.lookup 50 = _; rw [hB]; rfl) rfl (ses_cons (se_of_eq (b' := .str (lineAll ns)) (se_methS se_str.t (ses_cons (se_name 4 rfl rfl hF.toOk).t ses_nil) F.slot_str_join F.type_str_join (bn_join hjoin)) rfl).t ses_nil) (strip_ok B hB (lineAll ns) O.lineLen O.lineFin) (show 8 ≤ 11 from by decide) (.inr rfl) (.inr rfl)).t ses_nil) (read_ok B hB (stripOf (lineAll ns)) ws N O.fuel O.leftLen O.read) (show 3 ≤ 11 from by decide) (.inl rfl) (.inr rfl)) ?_ rfl)
  refine ss_cons (s1_map 8 (fNames (shiftOf ns)) hF rfl rfl (CompOk.one (y := "shift") (c := L + 2) (j := 5) (d := .int (shiftOf ns)) rfl (by decide +kernel) rfl (by decide +kernel) (by decide +kernel) (by decide +kernel) rfl rfl rfl rfl rfl) (si_list (se_name 7 rfl rfl hF.toOk)) (fun d hd => ?_) (fun M d hd => ?_) (fun d hd => ?_) ?_ ?_)
  · obtain ⟨w, _, rfl⟩ := List.mem_map.mp hd; rfl
  · obtain ⟨w, hw, rfl⟩ := List.mem_map.mp hd
    obtain ⟨e1, e2⟩ := O.wsExp w hw
    have hm : (w.fmod 64 + shiftOf ns - 1).toNat < 12 := by omega
    have hll := listed_len20 _ hm
    have l1 : spc.length = 1 := by decide +kernel
    have l2 : com.length = 1 := by decide +kernel
    refine se_bin (op_add_str ?_) (SE.t (se_bin (d₂ := .str (listedOf (w.fmod 64 + shiftOf ns - 1).toNat)) (op_add_str ?_) (se_str (x := spc)).t (SE.t ?_))) (se_str (x := com)).t
    rotate_left 2
    · refine se_callF ⟨rfl, rfl, rfl⟩ rfl (by show nsIn B.K mainGlobals "pretty_flags" = some (some (.ref 22)); rw [hB]; rfl) (by show B.K.lookup 22 = _; rw [hB]; rfl) rfl (ses_cons (SE.t (se_of_eq (b' := .int (2 ^ (w.fmod 64 + shiftOf ns - 1).toNat)) (se_bin (op_div (by decide) (by decide)) (SE.t (se_bin (op_pow ?_ ?_ (by decide)) se_int.t (SE.t (se_bin op_add (SE.t (se_bin (op_mod (by decide)) (se_name 0 rfl rfl ⟨rfl, rfl, rfl⟩).t se_int.t)) (se_name 1 rfl rfl ⟨rfl, rfl, rfl⟩).t)))) se_int.t) (by rw [half_pow e1]))) ses_nil) (pretty_ok B hB _ hm) (show 2 ≤ 11 from by decide) (.inl rfl) (.inl rfl)
      · omega
      · omega
    · rw [str_len_append]; omega
    · omega
  · obtain ⟨w, _, rfl⟩ := List.mem_map.mp hd; rfl
  · have := O.wsLen; simp; omega
  rw [map_fNames]
  refine ss_cons (s1_if (b := false) (st_of_eq (st_cmp (se_name 8 rfl rfl hF.toOk).t (se_of_eq (b' := .list ((((rowAt ns 4).filter fun k => decide (0 ≤ k)).map (wantOf (shiftOf ns))).map .str)) (se_comp pNonneg (fWant (shiftOf ns)) (CompOk.two (y := "shift") (y' := "listed") (c := L + 2) (c' := L + 3) (j := 5) (j' := 6) (d := .int (shiftOf ns)) (d' := .list (all12.map .str)) rfl (by decide +kernel) rfl (by decide +kernel) (by decide +kernel) (by decide +kernel) (by decide +kernel) rfl rfl rfl rfl rfl rfl rfl rfl rfl rfl) (si_list (se_name 2 rfl rfl hF.toOk)) (fun d hd => ?_) (fun M d hd => ?_) (fun M d hd hp => ?_) (fun d hd hp => ?_) ?_) (by rw [map_fWant])).t cmp_ne_strs) (by rw [O.names]; simp)) (fun hb => nomatch hb) (fun _ => ss_nil ?_))
  · obtain ⟨w, _, rfl⟩ := List.mem_map.mp hd; rfl
  · obtain ⟨w, hw, rfl⟩ := List.mem_map.mp hd
    exact st_cmp (se_name 0 rfl rfl ⟨rfl, rfl, rfl⟩).t se_int.t cmp_ge_int
  · obtain ⟨w, hw, rfl⟩ := List.mem_map.mp hd
    have h0 : 0 ≤ w := by simpa [pNonneg] using hp
    have h5 := O.rowLt w hw
    have hml : gs all12 (w + shiftOf ns) ∈ all12 := gs_mem (by omega) (by simp [all12]; omega)
    have hll := all12_len _ hml
    have l1 : spc.length = 1 := by decide +kernel
    have l2 : com.length = 1 := by decide +kernel
    refine se_bin (op_add_str ?_) (se_bin (op_add_str ?_) (se_str (x := spc)).t (se_item (se_name 2 rfl rfl ⟨rfl, rfl, rfl⟩).t (se_bin op_add (se_name 0 rfl rfl ⟨rfl, rfl, rfl⟩).t (se_name 1 rfl rfl ⟨rfl, rfl, rfl⟩).t).t (by omega) (gs_get (by omega) (by simp [all12]; omega)) (by omega)).t).t (se_str (x := com)).t
    · rw [str_len_append]; omega
    · omega
  · obtain ⟨w, _, rfl⟩ := List.mem_map.mp hd; rfl
  · simp; omega
  have el : ∀ d ∈ intsFrom 0 ((5 : Int) - 0).toNat, ∃ k : Nat, k < 5 ∧ d = .int k := fun d hd => by
    obtain ⟨k, hk⟩ := List.getElem?_of_mem hd
    obtain ⟨h1, h2⟩ := intsFrom0_inv hk
    exact ⟨k, by omega, h2⟩
  refine ss_cons (s1_map 9 (fI fun k => 64 * gi (figuresOf ns) k + k + 1) hF rfl rfl (CompOk.one (y := "figures") (c := L + 1) (j := 3) (d := dInts (figuresOf ns)) rfl (by decide +kernel) rfl (by decide +kernel) (by decide +kernel) (by decide +kernel) rfl rfl rfl rfl rfl) (si_range1 hF.toOk rfl (k_range hB) se_int.t (by decide)) (fun d hd => ?_) (fun M d hd => ?_) (fun d hd => ?_) ?_ ?_)
  · obtain ⟨k, _, rfl⟩ := el d hd; rfl
  · obtain ⟨k, hk, rfl⟩ := el d hd
    have hg := hfb _ (mem_gi (ws := figuresOf ns) (k := (k : Int)) (by omega) (by omega))
    exact se_bin op_add (se_bin op_add (se_bin (op_mul (mul_ok_right (by omega) (by omega))) se_int.t (se_item (se_name 1 rfl rfl ⟨rfl, rfl, rfl⟩).t (se_name 0 rfl rfl ⟨rfl, rfl, rfl⟩).t (by omega) (gi_get (by omega) (by omega)) (by omega)).t).t (se_name 0 rfl rfl ⟨rfl, rfl, rfl⟩).t).t se_int.t
  · obtain ⟨k, _, rfl⟩ := el d hd; rfl
  · simp [intsFrom]
  rw [show D.list ((intsFrom 0 ((5 : Int) - 0).toNat).map (fI fun k => 64 * gi (figuresOf ns) k + k + 1)) = dInts (laidOf (figuresOf ns)) from rfl]
  refine ss_cons (s1_assign 10 hF rfl (.inl rfl) (se_callF hF.toOk rfl (by show nsIn B.K mainGlobals "_law_whole" = some (some (.ref 105)); rw [hB]; rfl) (by show B.K.lookup 105 = _; rw [hB]; rfl) rfl (ses_cons (se_name 9 rfl rfl hF.toOk).t ses_nil) (whole_ok B hB (laidOf (figuresOf ns)) rfl O.laidBound) (show 2 ≤ 11 from by decide) (.inl rfl) (.inr rfl)) ?_ rfl)
  refine ss_cons (s1_assign 11 hF rfl (.inl rfl) (se_callF hF.toOk rfl (by show nsIn B.K mainGlobals "_law_orders" = some (some (.ref 98)); rw [hB]; rfl) (by show B.K.lookup 98 = _; rw [hB]; rfl) rfl (ses_cons (se_name 8 rfl rfl hF.toOk).t (ses_cons (se_callF hF.toOk rfl (by show nsIn B.K mainGlobals "_law_outers" = some (some (.ref 93)); rw [hB]; rfl) (by show B.K.lookup 93 = _; rw [hB]; rfl) rfl (ses_cons (se_name 4 rfl rfl hF.toOk).t ses_nil) (outers_ok B hB (textsOf ns) htn htl O.lineLen O.sub) (show 11 ≤ 11 from by decide) (.inr rfl) (.inr rfl)).t (ses_cons (se_name 7 rfl rfl hF.toOk).t ses_nil))) (orders_ok B hB _ (outersOf (textsOf ns)) ws O.nms O.outLen O.outBound O.wsLen) (show 4 ≤ 11 from by decide) (.inl rfl) (.inr rfl)) ?_ rfl)
  refine ss_cons (s1_return (se_of_eq (b' := .bool true) (se_cmp (se_callF hF.toOk rfl (by show nsIn B.K mainGlobals "_law_total" = some (some (.ref 112)); rw [hB]; rfl) (by show B.K.lookup 112 = _; rw [hB]; rfl) rfl (ses_cons (se_name 11 rfl rfl hF.toOk).t (ses_cons (se_name 7 rfl rfl hF.toOk).t (ses_cons (se_name 10 rfl rfl hF.toOk).t ses_nil))) (total_ok B hB _ ws _ O.wsLen O.wsBound O.ordLen O.ordOk) (show 2 ≤ 11 from by decide) (.inl rfl) (.inr rfl)).t (se_callF hF.toOk rfl (by show nsIn B.K mainGlobals "_law_due" = some (some (.ref 119)); rw [hB]; rfl) (by show B.K.lookup 119 = _; rw [hB]; rfl) rfl (ses_cons (se_name 2 rfl rfl hF.toOk).t (ses_cons (se_name 9 rfl rfl hF.toOk).t (ses_cons (se_name 3 rfl rfl hF.toOk).t (ses_cons (se_name 10 rfl rfl hF.toOk).t ses_nil)))) (due_ok B hB (rowAt ns 4) (laidOf (figuresOf ns)) (figuresOf ns) _ (by omega) rfl O.laidBound hfl O.due) (show 2 ≤ 11 from by decide) (.inl rfl) (.inr rfl)).t cmp_eq_int) (by rw [O.eq]; simp)).t rfl)
end Mine
end

section
set_option maxRecDepth 100000
namespace Mine

/-! the sum over the orders, in fractions -/
noncomputable def qinv (w : Nat → Rat) : List Nat → Rat
  | [] => 1
  | [_] => 1
  | a :: b :: r => (w a - w b)⁻¹ * qinv w (b :: r)
noncomputable def insAll (x : Nat) : List Nat → List (List Nat)
  | [] => [[x]]
  | a :: r => (x :: a :: r) :: (insAll x r).map (a :: ·)
noncomputable def insAfter (x a : Nat) : List Nat → List (List Nat)
  | [] => []
  | c :: r => if c = a then (insAll x r).map (c :: ·) else (insAfter x a r).map (c :: ·)
noncomputable def insBefore (x a : Nat) : List Nat → List (List Nat)
  | [] => []
  | c :: r => if c = a then [x :: c :: r] else (x :: c :: r) :: (insBefore x a r).map (c :: ·)
noncomputable def qsum (f : List Nat → Rat) : List (List Nat) → Rat
  | [] => 0
  | g :: l => f g + qsum f l
theorem qsum_map (f : List Nat → Rat) (h : List Nat → List Nat) : ∀ l, qsum f (l.map h) = qsum (fun g => f (h g)) l
  | [] => rfl
  | g :: l => by simp only [List.map_cons, qsum]; rw [qsum_map f h l]
theorem qsum_append (f : List Nat → Rat) : ∀ l l', qsum f (l ++ l') = qsum f l + qsum f l'
  | [], l' => by simp only [List.nil_append, qsum]; grind
  | g :: l, l' => by simp only [List.cons_append, qsum]; rw [qsum_append f l l']; grind
theorem qsum_mul (f : List Nat → Rat) (c : Rat) : ∀ l, qsum (fun g => c * f g) l = c * qsum f l
  | [] => by simp only [qsum]; grind
  | g :: l => by simp only [qsum]; rw [qsum_mul f c l]; grind
theorem qsum_congr {f h : List Nat → Rat} : ∀ {l : List (List Nat)}, (∀ g ∈ l, f g = h g) → qsum f l = qsum h l
  | [], _ => rfl
  | g :: l, e => by simp only [qsum]; rw [e g List.mem_cons_self, qsum_congr fun g hg => e g (List.mem_cons_of_mem _ hg)]

section
variable {w : Nat → Rat}
theorem field1 {a b x : Rat} (h1 : a ≠ x) (h2 : x ≠ b) (h3 : a ≠ b) : (a - x)⁻¹ * (x - b)⁻¹ + (a - b)⁻¹ * (b - x)⁻¹ = (a - b)⁻¹ * (a - x)⁻¹ := by
  have h1 : a - x ≠ 0 := by grind
  have h2 : x - b ≠ 0 := by grind
  have h2' : b - x ≠ 0 := by grind
  have h3 : a - b ≠ 0 := by grind
  grind
theorem field2 {a x : Rat} : (x - a)⁻¹ = -(a - x)⁻¹ := by
  have : x - a = -(a - x) := by grind
  rw [this]
  grind
/-- every place behind the first -/
theorem sum_all {x : Nat} (hw : ∀ i j, i < 5 → j < 5 → i ≠ j → w i ≠ w j) (hx : x < 5) : ∀ (r : List Nat) (a : Nat), (∀ y ∈ a :: r, y < 5) → (a :: r).Nodup → x ∉ a :: r →
    qsum (fun g => qinv w (a :: g)) (insAll x r) = qinv w (a :: r) * (w a - w x)⁻¹
  | [], a, hb, hn, hxm => by simp only [insAll, qsum, qinv]; grind
  | b :: r, a, hb, hn, hxm => by
    have ih := sum_all hw hx r b (fun y hy => hb y (List.mem_cons_of_mem _ hy)) (List.nodup_cons.mp hn).2 (fun h => hxm (List.mem_cons_of_mem _ h))
    have ha := hb a List.mem_cons_self
    have hbb := hb b (List.mem_cons_of_mem _ List.mem_cons_self)
    have hab : a ≠ b := fun e => (List.nodup_cons.mp hn).1 (e ▸ List.mem_cons_self)
    have hxa : x ≠ a := fun e => hxm (e ▸ List.mem_cons_self)
    have hxb : x ≠ b := fun e => hxm (e ▸ List.mem_cons_of_mem _ List.mem_cons_self)
    simp only [insAll, qsum]
    rw [qsum_map]
    have e : qsum (fun g => qinv w (a :: b :: g)) (insAll x r) = (w a - w b)⁻¹ * qsum (fun g => qinv w (b :: g)) (insAll x r) := by
      rw [← qsum_mul]; exact qsum_congr fun g _ => rfl
    rw [e, ih]
    have f := field1 (hw a x ha hx (Ne.symm hxa)) (hw x b hx hbb hxb) (hw a b ha hbb hab)
    show (w a - w x)⁻¹ * ((w x - w b)⁻¹ * qinv w (b :: r)) + (w a - w b)⁻¹ * (qinv w (b :: r) * (w b - w x)⁻¹) = (w a - w b)⁻¹ * qinv w (b :: r) * (w a - w x)⁻¹
    grind
/-- every place: nothing is left -/
theorem sum_loose {x : Nat} (hw : ∀ i j, i < 5 → j < 5 → i ≠ j → w i ≠ w j) (hx : x < 5) {o : List Nat} (ho : o ≠ []) (hb : ∀ y ∈ o, y < 5) (hn : o.Nodup) (hxm : x ∉ o) : qsum (qinv w) (insAll x o) = 0 := by
  cases o with
  | nil => exact absurd rfl ho
  | cons a r =>
    simp only [insAll, qsum]
    rw [qsum_map, sum_all hw hx r a hb hn hxm]
    show (w x - w a)⁻¹ * qinv w (a :: r) + qinv w (a :: r) * (w a - w x)⁻¹ = 0
    rw [field2 (a := w a) (x := w x)]
    grind
theorem insAfter_head {x a : Nat} : ∀ {r : List Nat}, a ∈ r → ∀ g ∈ insAfter x a r, ∃ t, g = r.head! :: t ∧ r ≠ []
  | c :: r, h, g, hg => by
    unfold insAfter at hg
    split at hg
    · obtain ⟨t, _, rfl⟩ := List.mem_map.mp hg; exact ⟨t, rfl, by simp⟩
    · obtain ⟨t, _, rfl⟩ := List.mem_map.mp hg; exact ⟨t, rfl, by simp⟩
/-- every place behind a -/
theorem sum_after {x a : Nat} (hw : ∀ i j, i < 5 → j < 5 → i ≠ j → w i ≠ w j) (hx : x < 5) : ∀ (o : List Nat), a ∈ o → (∀ y ∈ o, y < 5) → o.Nodup → x ∉ o → qsum (qinv w) (insAfter x a o) = qinv w o * (w a - w x)⁻¹
  | c :: r, ham, hb, hn, hxm => by
    unfold insAfter
    split
    · rename_i h
      subst h
      rw [qsum_map]
      exact sum_all hw hx r c hb hn hxm
    · rename_i h
      have har : a ∈ r := by
        rcases List.mem_cons.mp ham with e | e
        · exact absurd e.symm h
        · exact e
      have ih := sum_after hw hx r har (fun y hy => hb y (List.mem_cons_of_mem _ hy)) (List.nodup_cons.mp hn).2 (fun h => hxm (List.mem_cons_of_mem _ h))
      rw [qsum_map]
      cases r with
      | nil => cases har
      | cons d r =>
        have e : qsum (fun g => qinv w (c :: g)) (insAfter x a (d :: r)) = (w c - w d)⁻¹ * qsum (qinv w) (insAfter x a (d :: r)) := by
          rw [← qsum_mul]
          refine qsum_congr fun g hg => ?_
          obtain ⟨t, rfl, _⟩ := insAfter_head har g hg
          rfl
        rw [e, ih]
        show _ = (w c - w d)⁻¹ * qinv w (d :: r) * _
        grind
theorem sum_before' {x a : Nat} (hw : ∀ i j, i < 5 → j < 5 → i ≠ j → w i ≠ w j) (hx : x < 5) : ∀ (r : List Nat) (c : Nat), a ∈ r → (∀ y ∈ c :: r, y < 5) → (c :: r).Nodup → x ∉ c :: r →
    qsum (fun g => qinv w (c :: g)) (insBefore x a r) = qinv w (c :: r) * ((w c - w x)⁻¹ + (w x - w a)⁻¹)
  | b :: r, c, har, hb, hn, hxm => by
    have hc := hb c List.mem_cons_self
    have hbb := hb b (List.mem_cons_of_mem _ List.mem_cons_self)
    have hcb : c ≠ b := fun e => (List.nodup_cons.mp hn).1 (e ▸ List.mem_cons_self)
    have hxc : x ≠ c := fun e => hxm (e ▸ List.mem_cons_self)
    have hxb : x ≠ b := fun e => hxm (e ▸ List.mem_cons_of_mem _ List.mem_cons_self)
    have f := field1 (hw c x hc hx (Ne.symm hxc)) (hw x b hx hbb hxb) (hw c b hc hbb hcb)
    have f2 := field2 (a := w x) (x := w b)
    unfold insBefore
    split
    · rename_i h
      subst h
      show (w c - w x)⁻¹ * ((w x - w b)⁻¹ * qinv w (b :: r)) + 0 = (w c - w b)⁻¹ * qinv w (b :: r) * _
      grind
    · rename_i h
      have har' : a ∈ r := by
        rcases List.mem_cons.mp har with e | e
        · exact absurd e.symm h
        · exact e
      have ih := sum_before' hw hx r b har' (fun y hy => hb y (List.mem_cons_of_mem _ hy)) (List.nodup_cons.mp hn).2 (fun h => hxm (List.mem_cons_of_mem _ h))
      simp only [qsum]
      rw [qsum_map]
      have e : qsum (fun g => qinv w (c :: b :: g)) (insBefore x a r) = (w c - w b)⁻¹ * qsum (fun g => qinv w (b :: g)) (insBefore x a r) := by
        rw [← qsum_mul]; exact qsum_congr fun g _ => rfl
      rw [e, ih]
      show (w c - w x)⁻¹ * ((w x - w b)⁻¹ * qinv w (b :: r)) + (w c - w b)⁻¹ * (qinv w (b :: r) * _) = (w c - w b)⁻¹ * qinv w (b :: r) * _
      grind
/-- every place before a -/
theorem sum_before {x a : Nat} (hw : ∀ i j, i < 5 → j < 5 → i ≠ j → w i ≠ w j) (hx : x < 5) {o : List Nat} (ham : a ∈ o) (hb : ∀ y ∈ o, y < 5) (hn : o.Nodup) (hxm : x ∉ o) : qsum (qinv w) (insBefore x a o) = qinv w o * (w x - w a)⁻¹ := by
  cases o with
  | nil => cases ham
  | cons c r =>
    unfold insBefore
    split
    · rename_i h
      subst h
      show (w x - w c)⁻¹ * qinv w (c :: r) + 0 = _
      grind
    · rename_i h
      have har : a ∈ r := by
        rcases List.mem_cons.mp ham with e | e
        · exact absurd e.symm h
        · exact e
      simp only [qsum]
      rw [qsum_map, sum_before' hw hx r c har hb hn hxm]
      show (w x - w c)⁻¹ * qinv w (c :: r) + _ = _
      rw [field2 (a := w c) (x := w x)]
      grind
end
end Mine
end

section
set_option maxRecDepth 100000
namespace Mine

noncomputable def before (a b : Nat) : List Nat → Bool
  | [] => false
  | c :: r => if c = a then r.contains b else before a b r
theorem before_none {a b : Nat} : ∀ {l : List Nat}, b ∉ l → before a b l = false
  | [], _ => rfl
  | c :: r, h => by
    unfold before
    split
    · simp; exact fun e => h (List.mem_cons_of_mem _ e)
    · exact before_none fun e => h (List.mem_cons_of_mem _ e)
theorem mem_insAll {x y : Nat} : ∀ {o g : List Nat}, g ∈ insAll x o → (y ∈ g ↔ y = x ∨ y ∈ o)
  | [], g, h => by simp [insAll] at h; subst h; simp
  | a :: r, g, h => by
    simp only [insAll, List.mem_cons, List.mem_map] at h
    rcases h with rfl | ⟨t, ht, rfl⟩
    · simp
    · have := mem_insAll (y := y) ht
      simp only [List.mem_cons, this]
      constructor
      · rintro (h | h | h) <;> simp [h]
      · rintro (h | h | h) <;> simp [h]
theorem nodup_insAll {x : Nat} : ∀ {o g : List Nat}, o.Nodup → x ∉ o → g ∈ insAll x o → g.Nodup
  | [], g, _, _, h => by simp [insAll] at h; subst h; simp
  | a :: r, g, hn, hx, h => by
    simp only [insAll, List.mem_cons, List.mem_map] at h
    rcases h with rfl | ⟨t, ht, rfl⟩
    · exact List.nodup_cons.mpr ⟨hx, hn⟩
    · refine List.nodup_cons.mpr ⟨fun hm => ?_, nodup_insAll (List.nodup_cons.mp hn).2 (fun e => hx (List.mem_cons_of_mem _ e)) ht⟩
      rcases (mem_insAll ht).mp hm with e | e
      · exact hx (e ▸ List.mem_cons_self)
      · exact (List.nodup_cons.mp hn).1 e
theorem len_insAll {x : Nat} : ∀ {o g : List Nat}, g ∈ insAll x o → g.length = o.length + 1
  | [], g, h => by simp [insAll] at h; subst h; rfl
  | a :: r, g, h => by
    simp only [insAll, List.mem_cons, List.mem_map] at h
    rcases h with rfl | ⟨t, ht, rfl⟩
    · rfl
    · simp [len_insAll ht]
theorem filter_map_cons {c : Nat} {p : List Nat → Bool} : ∀ {l : List (List Nat)}, (l.map (c :: ·)).filter p = (l.filter fun g => p (c :: g)).map (c :: ·)
  | [] => rfl
  | g :: l => by
    simp only [List.map_cons, List.filter_cons]
    split
    · rw [List.map_cons, filter_map_cons]
    · exact filter_map_cons
theorem filter_after {x a : Nat} : ∀ {o : List Nat}, x ∉ o → a ∈ o → (insAll x o).filter (before a x) = insAfter x a o
  | c :: r, hx, ha => by
    have hxa : x ≠ a := fun e => hx (e ▸ ha)
    simp only [insAll, insAfter]
    rw [List.filter_cons_of_neg (by
      show ¬ before a x (x :: c :: r) = true
      unfold before
      rw [if_neg hxa, before_none hx]; decide), filter_map_cons]
    split
    · rename_i h
      subst h
      congr 1
      refine List.filter_eq_self.mpr fun g hg => ?_
      unfold before
      rw [if_pos rfl]
      simp [(mem_insAll (y := x) hg)]
    · rename_i h
      have har : a ∈ r := by
        rcases List.mem_cons.mp ha with e | e
        · exact absurd e.symm h
        · exact e
      congr 1
      rw [← filter_after (fun e => hx (List.mem_cons_of_mem _ e)) har]
      refine List.filter_congr fun g _ => ?_
      show before a x (c :: g) = _
      rw [before, if_neg h]
theorem filter_before {x a : Nat} : ∀ {o : List Nat}, o.Nodup → x ∉ o → a ∈ o → (insAll x o).filter (before x a) = insBefore x a o
  | c :: r, hn, hx, ha => by
    have hxc : c ≠ x := fun e => hx (e ▸ List.mem_cons_self)
    simp only [insAll, insBefore]
    rw [List.filter_cons_of_pos (by
      show before x a (x :: c :: r) = true
      unfold before
      rw [if_pos rfl]
      simpa using ha), filter_map_cons]
    split
    · rename_i h
      subst h
      congr 1
      rw [List.map_eq_nil_iff]
      refine List.filter_eq_nil_iff.mpr fun g hg => ?_
      rw [before, if_neg hxc, before_none]
      · decide
      · intro hm
        rcases (mem_insAll hg).mp hm with e | e
        · exact hxc e
        · exact (List.nodup_cons.mp hn).1 e
    · rename_i h
      have har : a ∈ r := by
        rcases List.mem_cons.mp ha with e | e
        · exact absurd e.symm h
        · exact e
      congr 2
      rw [← filter_before (List.nodup_cons.mp hn).2 (fun e => hx (List.mem_cons_of_mem _ e)) har]
      refine List.filter_congr fun g _ => ?_
      show before x a (c :: g) = _
      rw [before, if_neg hxc]
theorem range_insOrd (x : Nat) : ∀ o : List Nat, (List.range (o.length + 1)).map (insOrd o x) = insAll x o
  | [] => by simp [insAll, insOrd]
  | a :: r => by
    rw [List.range_succ_eq_map, List.map_cons, List.map_map, insAll, ← range_insOrd x r, List.map_map]
    congr 1

structure OrdShape (n : Nat) (o : List Nat) : Prop where
  nd : o.Nodup
  mem : ∀ m, m ∈ o ↔ m ≤ n
  len : o.length = n + 1
theorem growB_filter {names : List PySem.Str} {outers worths : List Int} {n : Nat} {o : List Nat} (h : o.length = n + 1) : growB names outers worths (n + 1) o (n + 2) = (insAll (n + 1) o).filter (keepB names outers worths (n + 1)) := by
  unfold growB
  rw [← range_insOrd, h]
theorem ordShape (names : List PySem.Str) (outers worths : List Int) : ∀ n, ∀ o ∈ ordersAt names outers worths n, OrdShape n o
  | 0, o, h => by simp [ordersAt] at h; subst h; exact ⟨by simp, fun m => by simp, rfl⟩
  | n + 1, g, h => by
    simp only [ordersAt, List.mem_flatMap] at h
    obtain ⟨o, ho, hg⟩ := h
    have S := ordShape names outers worths n o ho
    rw [growB_filter S.len] at hg
    have hg := (List.mem_filter.mp hg).1
    have hx : n + 1 ∉ o := fun e => by have := (S.mem _).mp e; omega
    refine ⟨nodup_insAll S.nd hx hg, fun m => ?_, by rw [len_insAll hg, S.len]⟩
    rw [mem_insAll hg, S.mem]
    omega
noncomputable def oddAt (worths : List Int) (i : Nat) : Bool := ((gi worths i).fdiv 64).fmod 2 == 1
noncomputable def facAt (w : Nat → Rat) (outers worths : List Int) (i : Nat) : Rat :=
  if gi outers i < 0 then 0 else if oddAt worths i = true then (w i - w (gi outers i).toNat)⁻¹ else (w (gi outers i).toNat - w i)⁻¹
noncomputable def facs (w : Nat → Rat) (outers worths : List Int) : Nat → Rat
  | 0 => 1
  | n + 1 => facs w outers worths n * facAt w outers worths (n + 1)
theorem qsum_flatMap (f : List Nat → Rat) (h : List Nat → List (List Nat)) (c : Rat) : ∀ l : List (List Nat), (∀ o ∈ l, qsum f (h o) = f o * c) → qsum f (l.flatMap h) = qsum f l * c
  | [], _ => by simp only [List.flatMap_nil, qsum]; grind
  | o :: l, e => by
    rw [List.flatMap_cons, qsum_append, e o List.mem_cons_self, qsum_flatMap f h c l fun o' h' => e o' (List.mem_cons_of_mem _ h')]
    simp only [qsum]
    grind
theorem orders_sum {names : List PySem.Str} {outers worths : List Int} {w : Nat → Rat} (hw : ∀ i j, i < 5 → j < 5 → i ≠ j → w i ≠ w j) (hout : ∀ i : Nat, 1 ≤ i → i ≤ 4 → gi outers i < i)
    (hkeep : ∀ (n : Nat), n < 4 → ∀ g, OrdShape (n + 1) g → 0 ≤ gi outers (n + 1 : Nat) → keepB names outers worths (n + 1) g = if oddAt worths (n + 1) = true then before (n + 1) (gi outers (n + 1 : Nat)).toNat g else before (gi outers (n + 1 : Nat)).toNat (n + 1) g) :
    ∀ n, n ≤ 4 → qsum (qinv w) (ordersAt names outers worths n) = facs w outers worths n
  | 0, _ => by simp only [ordersAt, qsum, qinv, facs]; grind
  | n + 1, hn => by
    rw [ordersAt, facs, ← orders_sum hw hout hkeep n (by omega)]
    refine qsum_flatMap _ _ _ _ fun o ho => ?_
    have S := ordShape names outers worths n o ho
    rw [growB_filter S.len]
    have hx : n + 1 ∉ o := fun e => by have := (S.mem _).mp e; omega
    have hb : ∀ y ∈ o, y < 5 := fun y hy => by have := (S.mem _).mp hy; omega
    have ho' := hout (n + 1) (by omega) hn
    unfold facAt
    by_cases hl : gi outers (n + 1 : Nat) < 0
    · rw [if_pos hl, List.filter_eq_self.mpr fun g _ => ?_]
      · rw [sum_loose hw (by omega) (by intro e; have := S.len; rw [e] at this; simp at this) hb S.nd hx]
        grind
      · unfold keepB
        rw [decide_eq_true hl]; rfl
    · rw [if_neg hl]
      have ham : (gi outers (n + 1 : Nat)).toNat ∈ o := (S.mem _).mpr (by omega)
      have hshape : ∀ g ∈ insAll (n + 1) o, OrdShape (n + 1) g := fun g hg => ⟨nodup_insAll S.nd hx hg, fun m => by rw [mem_insAll hg, S.mem]; omega, by rw [len_insAll hg, S.len]⟩
      by_cases hodd : oddAt worths (n + 1) = true
      · rw [if_pos hodd, List.filter_congr (q := before (n + 1) (gi outers (n + 1 : Nat)).toNat) fun g hg => by rw [hkeep n (by omega) g (hshape g hg) (by omega), if_pos hodd], filter_before S.nd hx ham]
        exact sum_before hw (by omega) ham hb S.nd hx
      · rw [if_neg hodd, List.filter_congr (q := before (gi outers (n + 1 : Nat)).toNat (n + 1)) fun g hg => by rw [hkeep n (by omega) g (hshape g hg) (by omega), if_neg hodd], filter_after hx ham]
        exact sum_after hw (by omega) o ham hb S.nd hx
end Mine
end

section
set_option maxRecDepth 100000
namespace Mine

/-! what divides the whole -/
noncomputable def nrm (p : Nat × Nat) : Nat × Nat := (min p.1 p.2, max p.1 p.2)
noncomputable def dn (l : List Int) (p : Nat × Nat) : Nat := (gi l p.1 - gi l p.2).natAbs
noncomputable def prodN (l : List Int) : List (Nat × Nat) → Nat
  | [] => 1
  | p :: q => dn l p * prodN l q
noncomputable def prodD (l : List Int) : List (Nat × Nat) → Int
  | [] => 1
  | p :: q => (gi l p.1 - gi l p.2) * prodD l q
noncomputable def pairs10 : List (Nat × Nat) := [(0, 1), (0, 2), (1, 2), (0, 3), (1, 3), (2, 3), (0, 4), (1, 4), (2, 4), (3, 4)]
theorem dn_nrm (l : List Int) (p : Nat × Nat) : dn l (nrm p) = dn l p := by
  obtain ⟨a, b⟩ := p
  rcases Nat.le_total a b with h | h
  · simp [nrm, dn, Nat.min_eq_left h, Nat.max_eq_right h]
  · simp only [nrm, dn, Nat.min_eq_right h, Nat.max_eq_left h]
    rw [← Int.natAbs_neg, Int.neg_sub]
theorem prodN_nrm (l : List Int) : ∀ q, prodN l (q.map nrm) = prodN l q
  | [] => rfl
  | p :: q => by simp only [List.map_cons, prodN]; rw [dn_nrm, prodN_nrm l q]
theorem prodD_abs (l : List Int) : ∀ q, (prodD l q).natAbs = prodN l q
  | [] => rfl
  | p :: q => by simp only [prodD, prodN]; rw [Int.natAbs_mul, prodD_abs l q]; rfl
theorem prodN_erase (l : List Int) {p : Nat × Nat} : ∀ {q : List (Nat × Nat)}, p ∈ q → prodN l q = dn l p * prodN l (q.erase p)
  | a :: q, h => by
    rw [List.erase_cons]
    split
    · rename_i e
      have e : a = p := by simpa using e
      subst e; rfl
    · rename_i e
      have hq : p ∈ q := by
        rcases List.mem_cons.mp h with h | h
        · subst h; simp at e
        · exact h
      simp only [prodN]
      rw [prodN_erase l hq, Nat.mul_left_comm]
theorem prodN_dvd (l : List Int) : ∀ {q q' : List (Nat × Nat)}, q.Nodup → (∀ p ∈ q, p ∈ q') → prodN l q ∣ prodN l q'
  | [], q', _, _ => Nat.one_dvd _
  | p :: q, q', hn, hs => by
    rw [prodN_erase l (hs p List.mem_cons_self)]
    refine Nat.mul_dvd_mul_left _ (prodN_dvd l (List.nodup_cons.mp hn).2 fun a ha => ?_)
    refine (List.mem_erase_of_ne ?_).mpr (hs a (List.mem_cons_of_mem _ ha))
    rintro rfl
    exact (List.nodup_cons.mp hn).1 ha
theorem iabs_natAbs (a : Int) : (iabs a).natAbs = a.natAbs := by
  unfold iabs
  split
  · exact Int.natAbs_neg a
  · rfl
theorem whole_abs (l : List Int) : (wholeOut l 5).natAbs = prodN l pairs10 := by
  simp only [wholeOut, wholeIn, Int.natAbs_mul, iabs_natAbs, prodN, pairs10, dn]
  simp only [show (1 : Int).natAbs = 1 from rfl, Nat.one_mul, Nat.mul_one, Nat.mul_assoc]
theorem prodD_dvd (l : List Int) {q : List (Nat × Nat)} (hn : (q.map nrm).Nodup) (hs : ∀ p ∈ q, p.1 < 5 ∧ p.2 < 5 ∧ p.1 ≠ p.2) : prodD l q ∣ wholeOut l 5 := by
  rw [← Int.natAbs_dvd_natAbs, prodD_abs, whole_abs, ← prodN_nrm]
  refine prodN_dvd l hn fun p hp => ?_
  obtain ⟨⟨a, b⟩, hm, rfl⟩ := List.mem_map.mp hp
  obtain ⟨h1, h2, h3⟩ := hs _ hm
  have key : ∀ a : Fin 5, ∀ b : Fin 5, a ≠ b → nrm (a.1, b.1) ∈ pairs10 := by decide
  exact key ⟨a, h1⟩ ⟨b, h2⟩ fun e => h3 (Fin.mk.inj e)

noncomputable def chain : List Nat → List (Nat × Nat)
  | [] => []
  | [_] => []
  | a :: b :: r => (a, b) :: chain (b :: r)
theorem chain_mem : ∀ {g : List Nat} {p : Nat × Nat}, p ∈ chain g → p.1 ∈ g ∧ p.2 ∈ g
  | a :: b :: r, p, h => by
    rcases List.mem_cons.mp h with rfl | h
    · simp
    · have := chain_mem h
      exact ⟨List.mem_cons_of_mem _ this.1, List.mem_cons_of_mem _ this.2⟩
theorem nrm_eq {a b c d : Nat} (e : nrm (c, d) = nrm (a, b)) : a = c ∨ a = d := by
  have e1 : min c d = min a b := congrArg Prod.fst e
  have e2 : max c d = max a b := congrArg Prod.snd e
  rcases Nat.le_total a b with h | h
  · rw [Nat.min_eq_left h] at e1
    rcases Nat.le_total c d with g | g
    · rw [Nat.min_eq_left g] at e1; exact .inl e1.symm
    · rw [Nat.min_eq_right g] at e1; exact .inr e1.symm
  · rw [Nat.max_eq_left h] at e2
    rcases Nat.le_total c d with g | g
    · rw [Nat.max_eq_right g] at e2; exact .inr e2.symm
    · rw [Nat.max_eq_left g] at e2; exact .inl e2.symm
theorem chain_ok : ∀ {g : List Nat}, g.Nodup → ((chain g).map nrm).Nodup ∧ ∀ p ∈ chain g, p.1 ≠ p.2
  | [], _ => ⟨List.nodup_nil, fun p h => nomatch h⟩
  | [_], _ => ⟨List.nodup_nil, fun p h => nomatch h⟩
  | a :: b :: r, hn => by
    have ⟨h1, h2⟩ := chain_ok (List.nodup_cons.mp hn).2
    have ha := (List.nodup_cons.mp hn).1
    refine ⟨List.nodup_cons.mpr ⟨fun hm => ?_, h1⟩, fun p hp => ?_⟩
    · obtain ⟨⟨c, d⟩, hcd, e⟩ := List.mem_map.mp hm
      have hc := chain_mem hcd
      have := nrm_eq e
      rcases this with rfl | rfl
      · exact ha hc.1
      · exact ha hc.2
    · rcases List.mem_cons.mp hp with rfl | hp
      · intro e
        have e : a = b := e
        exact ha (e ▸ List.mem_cons_self)
      · exact h2 p hp

/-! in fractions -/
theorem fdiv_cast {a p : Int} (hp : p ≠ 0) (hd : p ∣ a) : ((a.fdiv p : Int) : Rat) = (a : Rat) * (p : Rat)⁻¹ := by
  obtain ⟨c, rfl⟩ := hd
  rw [Int.mul_fdiv_cancel_left _ hp, Rat.intCast_mul]
  have : (p : Rat) ≠ 0 := fun e => hp (Rat.intCast_inj.mp (by simpa using e))
  grind
theorem inv4 (a b c d : Rat) : (((1 : Int) : Rat) * a * b * c * d)⁻¹ = a⁻¹ * (b⁻¹ * (c⁻¹ * (d⁻¹ * 1))) := by
  rw [show ((1 : Int) : Rat) = 1 from rfl, Rat.one_mul, Rat.inv_mul_rev, Rat.inv_mul_rev, Rat.inv_mul_rev, Rat.mul_one, Rat.mul_comm d⁻¹, Rat.mul_comm c⁻¹, Rat.mul_comm b⁻¹, Rat.mul_assoc, Rat.mul_assoc]
theorem total_cast (ws : List Int) (whole : Int) (w : Nat → Rat) (hw : ∀ i : Nat, w i = (gi ws i : Rat)) : ∀ (orders : List (List Nat)), (∀ o ∈ orders, o.length = 5 ∧ partOf ws o 4 ≠ 0 ∧ partOf ws o 4 ∣ whole) → (totalOf ws whole orders : Rat) = (whole : Rat) * qsum (qinv w) orders := by
  have part : ∀ o : List Nat, o.length = 5 → ((partOf ws o 4 : Int) : Rat)⁻¹ = qinv w o := fun o ho => by
    refine len5 (P := fun o => ((partOf ws o 4 : Int) : Rat)⁻¹ = qinv w o) (fun a b c d e => ?_) o ho
    ·
      show (((1 * (gi ws (a : Nat) - gi ws (b : Nat)) * (gi ws (b : Nat) - gi ws (c : Nat)) * (gi ws (c : Nat) - gi ws (d : Nat)) * (gi ws (d : Nat) - gi ws (e : Nat)) : Int)) : Rat)⁻¹ = _
      simp only [qinv, hw, Rat.intCast_mul, Rat.intCast_sub]
      exact inv4 _ _ _ _
  have go : ∀ (orders : List (List Nat)) (t : Int), (∀ o ∈ orders, o.length = 5 ∧ partOf ws o 4 ≠ 0 ∧ partOf ws o 4 ∣ whole) → ((orders.foldl (fun t o => t + whole.fdiv (partOf ws o 4)) t : Int) : Rat) = (t : Rat) + (whole : Rat) * qsum (qinv w) orders := fun orders => by
    induction orders with
    | nil => intro t _; simp only [List.foldl_nil, qsum]; grind
    | cons o l ih =>
      intro t h
      obtain ⟨h1, h2, h3⟩ := h o List.mem_cons_self
      rw [List.foldl_cons, ih _ fun o' ho' => h o' (List.mem_cons_of_mem _ ho'), Rat.intCast_add, fdiv_cast h2 h3, part o h1]
      simp only [qsum]
      grind
  intro orders h
  unfold totalOf
  rw [go orders 0 h]
  grind
noncomputable def dueList : List Int → List Int → Option (List (Int × Int))
  | [], st => some []
  | k :: r, st => if k < 0 then dueList r st.dropLast else
      match st.getLast? with
      | some p => (dueList r (st ++ [k])).map ((p, k) :: ·)
      | none => if 0 < k then none else dueList r (st ++ [k])
theorem due_list (laid figs : List Int) : ∀ (row st : List Int) (w : Int), dueRun laid figs row st w = match dueList row st with | none => 0 | some l => l.foldl (fun w pk => w.fdiv (gapOf laid figs pk.1 pk.2)) w
  | [], st, w => rfl
  | k :: r, st, w => by
    unfold dueRun dueList
    split
    · exact due_list laid figs r st.dropLast w
    · cases h : st.getLast? with
      | some p =>
        dsimp only
        rw [due_list laid figs r (st ++ [k]) _]
        cases h2 : dueList r (st ++ [k]) with
        | none => rfl
        | some l => rfl
      | none =>
        dsimp only
        split
        · rfl
        · exact due_list laid figs r (st ++ [k]) w
noncomputable def gprod (laid figs : List Int) : List (Int × Int) → Int
  | [] => 1
  | pk :: l => gapOf laid figs pk.1 pk.2 * gprod laid figs l
noncomputable def ginv (laid figs : List Int) : List (Int × Int) → Rat
  | [] => 1
  | pk :: l => (gapOf laid figs pk.1 pk.2 : Rat)⁻¹ * ginv laid figs l
theorem due_cast (laid figs : List Int) : ∀ (l : List (Int × Int)) (w : Int), (∀ pk ∈ l, gapOf laid figs pk.1 pk.2 ≠ 0) → gprod laid figs l ∣ w → ((l.foldl (fun w pk => w.fdiv (gapOf laid figs pk.1 pk.2)) w : Int) : Rat) = (w : Rat) * ginv laid figs l
  | [], w, _, _ => by simp only [List.foldl_nil, ginv]; grind
  | pk :: l, w, h, hd => by
    have h0 := h pk List.mem_cons_self
    have hd1 : gapOf laid figs pk.1 pk.2 ∣ w := Int.dvd_trans ⟨_, rfl⟩ hd
    have hd2 : gprod laid figs l ∣ w.fdiv (gapOf laid figs pk.1 pk.2) := by
      obtain ⟨c, rfl⟩ := hd
      refine ⟨c, ?_⟩
      rw [gprod, Int.mul_assoc, Int.mul_fdiv_cancel_left _ h0]
    rw [List.foldl_cons, due_cast laid figs l _ (fun pk' h' => h pk' (List.mem_cons_of_mem _ h')) hd2, fdiv_cast h0 hd1]
    simp only [ginv]
    grind
end Mine
end

section
set_option maxRecDepth 100000
namespace Mine

noncomputable def looseIn (outers : List Int) : Bool := [1, 2, 3, 4].any fun i => decide (gi outers i < 0)
noncomputable def edgesOf (ks outers : List Int) : List (Int × Int) := [1, 2, 3, 4].map fun i => (gi ks (gi outers i), gi ks i)
structure RowFacts (row ks outers : List Int) : Prop where
  klen : ks.length = 5
  kn : ks.Nodup
  kb : ∀ k ∈ ks, 0 ≤ k ∧ k < 5
  olen : outers.length = 5
  ob : ∀ i ∈ ([0, 1, 2, 3, 4] : List Int), -1 ≤ gi outers i ∧ gi outers i < i
  due : dueList row [] = if looseIn outers = true then none else some (edgesOf ks outers)
  edges : looseIn outers = false → (((edgesOf ks outers).map fun p => (p.1.toNat, p.2.toNat)).map nrm).Nodup

theorem prodD_ne (l : List Int) (hd : ∀ i j : Nat, i < 5 → j < 5 → i ≠ j → gi l i ≠ gi l j) : ∀ q : List (Nat × Nat), (∀ p ∈ q, p.1 < 5 ∧ p.2 < 5 ∧ p.1 ≠ p.2) → prodD l q ≠ 0
  | [], _ => by show (1 : Int) ≠ 0; decide
  | p :: q, h => by
    obtain ⟨h1, h2, h3⟩ := h p List.mem_cons_self
    have := hd _ _ h1 h2 h3
    exact Int.mul_ne_zero (by omega) (prodD_ne l hd q fun p' h' => h p' (List.mem_cons_of_mem _ h'))

theorem nodup_map_on {f : Nat → Nat} : ∀ {l : List Nat}, (∀ a ∈ l, ∀ b ∈ l, f a = f b → a = b) → l.Nodup → (l.map f).Nodup
  | [], _, _ => List.nodup_nil
  | a :: l, h, hn => by
    rw [List.map_cons]
    refine List.nodup_cons.mpr ⟨fun hm => ?_, nodup_map_on (fun x hx y hy => h x (List.mem_cons_of_mem _ hx) y (List.mem_cons_of_mem _ hy)) (List.nodup_cons.mp hn).2⟩
    obtain ⟨b, hb, e⟩ := List.mem_map.mp hm
    have := h b (List.mem_cons_of_mem _ hb) a List.mem_cons_self e
    subst this
    exact (List.nodup_cons.mp hn).1 hb

section
variable {row ks outers laid ws : List Int} (F : RowFacts row ks outers) (hd : ∀ i j : Nat, i < 5 → j < 5 → i ≠ j → gi laid i ≠ gi laid j) (hws : ∀ i : Nat, i < 5 → gi ws i = gi laid (gi ks i))
include F in
theorem ks_bound (i : Nat) (hi : i < 5) : 0 ≤ gi ks i ∧ gi ks i < 5 := F.kb _ (mem_gi (by omega) (by have := F.klen; omega))
include F in
theorem ks_inj {i j : Nat} (hi : i < 5) (hj : j < 5) (hij : i ≠ j) : (gi ks i).toNat ≠ (gi ks j).toNat := by
  have h1 := ks_bound F i hi
  have h2 := ks_bound F j hj
  have hl := F.klen
  intro e
  have e' : gi ks i = gi ks j := (Int.toNat_of_nonneg h1.1).symm.trans ((congrArg Int.ofNat e).trans (Int.toNat_of_nonneg h2.1))
  have e1 : gi ks i = ks[i] := by simp [gi, hl, hi]
  have e2 : gi ks j = ks[j] := by simp [gi, hl, hj]
  rw [e1, e2] at e'
  exact hij ((List.getElem_inj F.kn).mp e')
include F hws in
theorem ws_nat (i : Nat) (hi : i < 5) : gi ws i = gi laid ((gi ks i).toNat : Nat) := by
  rw [hws i hi]
  have := ks_bound F i hi
  congr 1
  omega
include F hd hws in
theorem ws_ne {i j : Nat} (hi : i < 5) (hj : j < 5) (hij : i ≠ j) : gi ws i ≠ gi ws j := by
  rw [ws_nat F hws i hi, ws_nat F hws j hj]
  have h1 := ks_bound F i hi
  have h2 := ks_bound F j hj
  exact hd _ _ (by omega) (by omega) (ks_inj F hi hj hij)
include F hws in
theorem part_chain {o : List Nat} (S : OrdShape 4 o) : partOf ws o 4 = prodD laid (chain (o.map fun m => (gi ks (m : Nat)).toNat)) := by
  have hl := S.len
  have hm : ∀ m ∈ o, m < 5 := fun m h => by have := (S.mem m).mp h; omega
  refine len5 (P := fun o => (∀ m ∈ o, m < 5) → partOf ws o 4 = prodD laid (chain (o.map fun m => (gi ks (m : Nat)).toNat))) (fun a b c d e hm => ?_) o hl hm
  ·
    have ha := ws_nat F hws a (hm a (by simp))
    have hb := ws_nat F hws b (hm b (by simp))
    have hc := ws_nat F hws c (hm c (by simp))
    have hd' := ws_nat F hws d (hm d (by simp))
    have he := ws_nat F hws e (hm e (by simp))
    show 1 * (gi ws (a : Nat) - gi ws (b : Nat)) * (gi ws (b : Nat) - gi ws (c : Nat)) * (gi ws (c : Nat) - gi ws (d : Nat)) * (gi ws (d : Nat) - gi ws (e : Nat)) = _
    rw [ha, hb, hc, hd', he]
    simp only [List.map_cons, List.map_nil, chain, prodD, Int.one_mul, Int.mul_one, Int.mul_assoc]
include F in
theorem chain_facts {o : List Nat} (S : OrdShape 4 o) : ((chain (o.map fun m => (gi ks (m : Nat)).toNat)).map nrm).Nodup ∧ ∀ p ∈ chain (o.map fun m => (gi ks (m : Nat)).toNat), p.1 < 5 ∧ p.2 < 5 ∧ p.1 ≠ p.2 := by
  have hn : (o.map fun m => (gi ks (m : Nat)).toNat).Nodup := by
    refine nodup_map_on ?_ S.nd
    intro a ha b hb e
    have h1 := (S.mem a).mp ha
    have h2 := (S.mem b).mp hb
    by_cases hab : a = b
    · exact hab
    · exact absurd e (ks_inj F (by omega) (by omega) hab)
  have hb : ∀ m ∈ o.map fun m => (gi ks (m : Nat)).toNat, m < 5 := fun m hm => by
    obtain ⟨a, ha, rfl⟩ := List.mem_map.mp hm
    have := ks_bound F a (by have := (S.mem a).mp ha; omega)
    omega
  obtain ⟨h1, h2⟩ := chain_ok hn
  exact ⟨h1, fun p hp => ⟨hb _ (chain_mem hp).1, hb _ (chain_mem hp).2, h2 p hp⟩⟩
end
theorem facs_loose {w : Nat → Rat} {outers worths : List Int} (h : looseIn outers = true) : facs w outers worths 4 = 0 := by
  have : gi outers (1 : Nat) < 0 ∨ gi outers (2 : Nat) < 0 ∨ gi outers (3 : Nat) < 0 ∨ gi outers (4 : Nat) < 0 := by
    simpa [looseIn] using h
  simp only [facs, facAt]
  rcases this with h | h | h | h <;> simp only [show (0 + 1 : Nat) = 1 from rfl, show (1 + 1 : Nat) = 2 from rfl, show (2 + 1 : Nat) = 3 from rfl, show (3 + 1 : Nat) = 4 from rfl, if_pos h] <;> grind

theorem greene {row ks outers laid ws figs : List Int} {names : List PySem.Str} (F : RowFacts row ks outers) (hd : ∀ i j : Nat, i < 5 → j < 5 → i ≠ j → gi laid i ≠ gi laid j) (hws : ∀ i : Nat, i < 5 → gi ws i = gi laid (gi ks i))
    (hodd : ∀ i : Nat, i < 5 → oddAt ws i = !((gi figs (gi ks i)).fmod 2 == 0))
    (hkeep : ∀ (n : Nat), n < 4 → ∀ g, OrdShape (n + 1) g → 0 ≤ gi outers (n + 1 : Nat) → keepB names outers ws (n + 1) g = if oddAt ws (n + 1) = true then before (n + 1) (gi outers (n + 1 : Nat)).toNat g else before (gi outers (n + 1 : Nat)).toNat (n + 1) g) :
    totalOf ws (wholeOut laid 5) (ordersAt names outers ws 4) = dueRun laid figs row [] (wholeOut laid 5) := by
  have hw : ∀ i j, i < 5 → j < 5 → i ≠ j → (fun i : Nat => (gi ws i : Rat)) i ≠ (fun i : Nat => (gi ws i : Rat)) j := fun i j hi hj hij e => ws_ne F hd hws hi hj hij (Rat.intCast_inj.mp e)
  have ob : ∀ i : Nat, i < 5 → -1 ≤ gi outers i ∧ gi outers i < i := fun i hi => F.ob i (five (P := fun i : Nat => (i : Int) ∈ ([0, 1, 2, 3, 4] : List Int)) (by decide) (by decide) (by decide) (by decide) (by decide) i hi)
  have hsum := orders_sum (names := names) (outers := outers) (worths := ws) (w := fun i : Nat => (gi ws i : Rat)) hw (fun i h1 h4 => (ob i (by omega)).2) hkeep 4 (Nat.le_refl _)
  have hcast := total_cast ws (wholeOut laid 5) (fun i : Nat => (gi ws i : Rat)) (fun i => rfl) (ordersAt names outers ws 4) fun o ho => by
    have S := ordShape names outers ws 4 o ho
    obtain ⟨c1, c2⟩ := chain_facts F S
    rw [part_chain F hws S]
    exact ⟨S.len, prodD_ne laid hd _ c2, prodD_dvd laid c1 c2⟩
  rw [hsum] at hcast
  apply Rat.intCast_inj.mp
  rw [hcast, due_list, F.due]
  cases hl : looseIn outers with
  | true =>
    rw [facs_loose hl, if_pos rfl]
    show _ = ((0 : Int) : Rat)
    grind
  | false =>
    rw [if_neg (by decide)]
    dsimp only
    have hpos : ∀ i : Nat, 1 ≤ i → i ≤ 4 → 0 ≤ gi outers i := fun i h1 h4 => by
      have : ∀ j ∈ ([1, 2, 3, 4] : List Int), 0 ≤ gi outers j := fun j hj => by
        have := List.any_eq_false.mp hl j hj
        simpa using this
      refine this i ?_
      exact five (P := fun i : Nat => 1 ≤ i → (i : Int) ∈ ([1, 2, 3, 4] : List Int)) (by decide) (by decide) (by decide) (by decide) (by decide) i (Nat.lt_succ_of_le h4) h1
    -- one edge
    have edge : ∀ i : Nat, 1 ≤ i → i ≤ 4 → gapOf laid figs (gi ks (gi outers i)) (gi ks i) ≠ 0 ∧ ((gapOf laid figs (gi ks (gi outers i)) (gi ks i) : Int) : Rat)⁻¹ = facAt (fun i : Nat => (gi ws i : Rat)) outers ws i ∧
        (gapOf laid figs (gi ks (gi outers i)) (gi ks i)).natAbs = dn laid ((gi ks (gi outers i)).toNat, (gi ks i).toNat) ∧ (gi ks (gi outers i)).toNat < 5 ∧ (gi ks i).toNat < 5 ∧ (gi ks (gi outers i)).toNat ≠ (gi ks i).toNat := fun i h1 h4 => by
      have hp := hpos i h1 h4
      have hb := ob i (by omega)
      have hpi : (gi outers i).toNat < 5 := by omega
      have ep : gi outers i = ((gi outers i).toNat : Nat) := by omega
      have k1 := ks_bound F (gi outers i).toNat hpi
      have k2 := ks_bound F i (by omega)
      rw [← ep] at k1
      have hne := ks_inj F hpi (show i < 5 by omega) (by omega)
      rw [← ep] at hne
      have w1 := ws_nat F hws (gi outers i).toNat hpi
      have w2 := ws_nat F hws i (by omega)
      rw [← ep] at w1
      have g1 : gi laid (gi ks (gi outers i)) = gi ws (gi outers i) := by rw [w1, Int.toNat_of_nonneg k1.1]
      have g2 : gi laid (gi ks i) = gi ws i := by rw [w2, Int.toNat_of_nonneg k2.1]
      have hwne := ws_ne F hd hws hpi (show i < 5 by omega) (by omega)
      rw [← ep] at hwne
      have hf := hodd i (by omega)
      have a0 : (gi ws (gi outers i) - gi ws i).natAbs = dn laid ((gi ks (gi outers i)).toNat, (gi ks i).toNat) := by
        show _ = (gi laid ((gi ks (gi outers i)).toNat : Nat) - gi laid ((gi ks i).toNat : Nat)).natAbs
        rw [← w1, ← w2]
      have fe : facAt (fun i : Nat => (gi ws i : Rat)) outers ws i = if oddAt ws i = true then ((gi ws i : Rat) - (gi ws (gi outers i) : Rat))⁻¹ else ((gi ws (gi outers i) : Rat) - (gi ws i : Rat))⁻¹ := by
        unfold facAt
        rw [if_neg (show ¬ gi outers (i : Nat) < 0 by omega)]
        dsimp only
        rw [← ep]
      rw [fe, hf]
      unfold gapOf
      rw [g1, g2, ← a0]
      cases hq : ((gi figs (gi ks i)).fmod 2 == 0) with
      | true =>
        simp only [if_true, Bool.not_true, Bool.false_eq_true, if_false]
        exact ⟨fun e => hwne (Int.sub_eq_zero.mp e), by rw [Rat.intCast_sub], trivial, tn_lt k1.1 k1.2, tn_lt k2.1 k2.2, hne⟩
      | false =>
        simp only [Bool.false_eq_true, if_false, Bool.not_false, if_true]
        refine ⟨fun e => hwne (Int.sub_eq_zero.mp (Int.neg_eq_zero.mp e)), ?_, Int.natAbs_neg _, tn_lt k1.1 k1.2, tn_lt k2.1 k2.2, hne⟩
        rw [Rat.intCast_neg, Rat.intCast_sub]
        congr 1
        grind
    obtain ⟨n1, f1, a1, b1⟩ := edge 1 (by decide) (by decide)
    obtain ⟨n2, f2, a2, b2⟩ := edge 2 (by decide) (by decide)
    obtain ⟨n3, f3, a3, b3⟩ := edge 3 (by decide) (by decide)
    obtain ⟨n4, f4, a4, b4⟩ := edge 4 (by decide) (by decide)
    rw [due_cast laid figs (edgesOf ks outers) (wholeOut laid 5)]
    · congr 1
      show 1 * facAt _ outers ws 1 * facAt _ outers ws 2 * facAt _ outers ws 3 * facAt _ outers ws 4 = (_ : Rat)⁻¹ * ((_ : Rat)⁻¹ * ((_ : Rat)⁻¹ * ((_ : Rat)⁻¹ * 1)))
      rw [← f1, ← f2, ← f3, ← f4]
      grind
    · intro pk hpk
      simp only [edgesOf, List.map_cons, List.map_nil, List.mem_cons, List.not_mem_nil, or_false] at hpk
      rcases hpk with rfl | rfl | rfl | rfl
      · exact n1
      · exact n2
      · exact n3
      · exact n4
    · rw [← Int.natAbs_dvd_natAbs]
      have e : (gprod laid figs (edgesOf ks outers)).natAbs = (prodD laid ((edgesOf ks outers).map fun p => (p.1.toNat, p.2.toNat))).natAbs := by
        rw [prodD_abs]
        show (gapOf laid figs _ _ * (gapOf laid figs _ _ * (gapOf laid figs _ _ * (gapOf laid figs _ _ * 1)))).natAbs = dn laid _ * (dn laid _ * (dn laid _ * (dn laid _ * 1)))
        rw [Int.natAbs_mul, Int.natAbs_mul, Int.natAbs_mul, Int.natAbs_mul]
        exact congr (congrArg _ a1) (congr (congrArg _ a2) (congr (congrArg _ a3) (congr (congrArg _ a4) rfl)))
      rw [e, Int.natAbs_dvd_natAbs]
      refine prodD_dvd laid (F.edges hl) fun p hp => ?_
      simp only [edgesOf, List.map_cons, List.map_nil, List.mem_cons, List.not_mem_nil, or_false] at hp
      rcases hp with rfl | rfl | rfl | rfl
      · exact b1
      · exact b2
      · exact b3
      · exact b4
end Mine
end

section
set_option maxRecDepth 100000
namespace Mine
open PySem.StrLaws PySem.Builtin PySem.Builtin.Str

theorem range'_split' {lo n a : Nat} {pre post : List Nat} (h : List.range' lo n = pre ++ a :: post) : lo ≤ a ∧ ∀ k, lo ≤ k → k < a → k ∈ pre := by
  obtain ⟨k, _, e1, e2⟩ := List.range'_eq_append_iff.mp h
  obtain ⟨rfl, _⟩ := List.range'_eq_cons_iff.mp e2.symm
  exact ⟨Nat.le_add_right _ _, fun j h1 h2 => by rw [e1]; exact List.mem_range'_1.mpr ⟨h1, Nat.lt_of_lt_of_eq h2 (congrArg (lo + ·) (Nat.mul_one k))⟩⟩
theorem find_spec (x y : PySem.Str) (lo : Nat) (hlo : lo ≤ x.length) :
    (find4 x y lo x.length = -1 ∧ ∀ i, lo ≤ i → ¬ At x y x.length i) ∨ ∃ i : Nat, find4 x y lo x.length = i ∧ lo ≤ i ∧ At x y x.length i ∧ ∀ k, lo ≤ k → k < i → ¬ At x y x.length k := by
  unfold find4
  have e1 : fromIndex x.length (lo : Int) = lo := by unfold fromIndex; rw [if_neg (by omega)]; omega
  have e2 : endIndex x.length (x.length : Int) = x.length := by unfold endIndex; rw [if_neg (by omega)]; omega
  rw [e1, e2, occ_eq]
  rcases occ_first x y x.length 1 (Nat.le_refl _) (List.range' lo (x.length + 1 - lo)) lo (fun i hi => (List.mem_range'_1.mp hi).1) with ⟨h0, hn⟩ | ⟨pre, a, post, e, h0, ha, hn⟩
  · refine .inl ⟨by rw [h0], fun i hle hi => ?_⟩
    exact hn i (List.mem_range'_1.mpr ⟨hle, by have := hi.1; omega⟩) hi
  · obtain ⟨hla, hpre⟩ := range'_split' e
    refine .inr ⟨a, ?_, hla, ha, fun k hlk hk => hn k (hpre k hlk hk)⟩
    generalize (forIn (List.range' lo (x.length + 1 - lo)) ((#[] : Array Nat), lo) (occBody x y x.length 1)).run.fst = arr at h0
    have h1 : arr.toList[0]? = some a := by simpa using h0
    cases hL : arr.toList with
    | nil => rw [hL] at h1; cases h1
    | cons b t => rw [hL] at h1; simp at h1; rw [h1]

/-- a name: a blank, signs that are neither blank nor comma, a comma -/
noncomputable def Framed (t : List Nat) : Prop := ∃ b, t = 32 :: b ++ [44] ∧ 32 ∉ b ∧ 44 ∉ b
theorem comma_split : ∀ {a b r r' : List Nat}, 44 ∉ a → 44 ∉ b → a ++ 44 :: r = b ++ 44 :: r' → a = b
  | [], [], _, _, _, _, _ => rfl
  | [], y :: b, _, _, _, hb, h => by
    simp at h
    exact absurd List.mem_cons_self (h.1 ▸ hb)
  | x :: a, [], _, _, ha, _, h => by
    simp at h
    exact absurd List.mem_cons_self (h.1 ▸ ha)
  | x :: a, y :: b, r, r', ha, hb, h => by
    simp only [List.cons_append, List.cons.injEq] at h
    rw [h.1, comma_split (fun e => ha (List.mem_cons_of_mem _ e)) (fun e => hb (List.mem_cons_of_mem _ e)) h.2]
theorem framed_prefix {y t r : List Nat} (hy : Framed y) (ht : Framed t) (h : y <+: t ++ r) : y = t := by
  obtain ⟨a, rfl, _, ha⟩ := hy
  obtain ⟨b, rfl, _, hb⟩ := ht
  obtain ⟨s, hs⟩ := h
  simp only [List.cons_append, List.append_assoc, List.cons.injEq, true_and, List.nil_append, List.singleton_append] at hs
  rw [comma_split ha hb hs]
theorem framed_ne {y : List Nat} (h : Framed y) : y ≠ [] := by obtain ⟨b, rfl, _⟩ := h; simp
/-- where the tokens begin -/
noncomputable def begins (ts : List (List Nat)) (k : Nat) : Nat := ((ts.take k).map List.length).sum
theorem begins_cons (t : List Nat) (ts : List (List Nat)) (k : Nat) : begins (t :: ts) (k + 1) = t.length + begins ts k := by simp [begins]
theorem tok_at {y : List Nat} (hy : Framed y) : ∀ {ts : List (List Nat)} {i : Nat}, (∀ t ∈ ts, Framed t) → y <+: ts.flatten.drop i → ∃ k, ts[k]? = some y ∧ i = begins ts k
  | [], i, _, h => by
    simp at h
    exact absurd h (framed_ne hy)
  | t :: ts, i, hf, h => by
    have ht := hf t List.mem_cons_self
    rw [List.flatten_cons] at h
    by_cases h0 : i = 0
    · subst h0
      exact ⟨0, by rw [framed_prefix hy ht h]; rfl, rfl⟩
    · rcases Nat.lt_or_ge i t.length with hlt | hge
      · exfalso
        rw [List.drop_append_of_le_length (by omega)] at h
        obtain ⟨a, rfl, _, _⟩ := hy
        obtain ⟨b, rfl, hb, _⟩ := ht
        obtain ⟨j, rfl⟩ : ∃ j, i = j + 1 := ⟨i - 1, by omega⟩
        obtain ⟨s, hs⟩ := h
        simp only [List.cons_append, List.drop_succ_cons] at hs
        have hm : 32 ∈ (b ++ [44]).drop j := by
          cases hd : (b ++ [44]).drop j with
          | nil =>
            have := congrArg List.length hd
            simp at this hlt
            omega
          | cons z zs =>
            rw [hd] at hs
            simp only [List.cons_append, List.cons.injEq] at hs
            rw [hs.1]; exact List.mem_cons_self
        have := List.mem_of_mem_drop hm
        simp at this
        exact hb this
      · rw [List.drop_append, List.drop_of_length_le hge, List.nil_append] at h
        obtain ⟨k, hk, he⟩ := tok_at hy (fun t' h' => hf t' (List.mem_cons_of_mem _ h')) h
        exact ⟨k + 1, hk, by rw [begins_cons]; omega⟩
theorem at_tok {y : List Nat} : ∀ {ts : List (List Nat)} {k : Nat}, ts[k]? = some y → y <+: ts.flatten.drop (begins ts k)
  | t :: ts, 0, h => by
    simp at h
    subst h
    simp [begins]
  | t :: ts, k + 1, h => by
    rw [begins_cons, List.flatten_cons, List.drop_append, List.drop_of_length_le (by omega), List.nil_append, show t.length + begins ts k - t.length = begins ts k by omega]
    exact at_tok h
theorem begins_mono {ts : List (List Nat)} {j k : Nat} (h : j ≤ k) : begins ts j ≤ begins ts k := by
  unfold begins
  rw [show k = j + (k - j) by omega, List.take_add, List.map_append, List.sum_append]
  omega
theorem begins_next {ts : List (List Nat)} {k : Nat} {t : List Nat} (h : ts[k]? = some t) : begins ts (k + 1) = begins ts k + t.length := by
  unfold begins
  have hk : k < ts.length := (List.getElem?_eq_some_iff.mp h).1
  have e : ts[k] = t := (List.getElem?_eq_some_iff.mp h).2
  rw [List.take_succ_eq_append_getElem hk]
  simp [e]
theorem begins_le {ts : List (List Nat)} {k : Nat} : begins ts k ≤ ts.flatten.length := by
  unfold begins
  conv => rhs; rw [← List.take_append_drop k ts, List.flatten_append, List.length_append, List.length_flatten]
  omega

theorem subAt_iff (x y : PySem.Str) (i : Nat) (h : i + y.length ≤ x.length) : subAt x y i = true ↔ y.cps.toList <+: x.cps.toList.drop i := by
  unfold subAt
  rw [beq_iff_eq, ← Array.toList_inj, Array.toList_extract]
  have hl : y.length = y.cps.toList.length := by simp [Str.length]
  rw [List.extract_eq_take_drop, show i + y.length - i = y.length by omega, hl, List.prefix_iff_eq_take]
  exact eq_comm
theorem at_iff (x y : PySem.Str) (i : Nat) (hy : y.cps.toList ≠ []) : At x y x.length i ↔ y.cps.toList <+: x.cps.toList.drop i := by
  constructor
  · rintro ⟨h1, h2⟩
    exact (subAt_iff x y i h1).mp h2
  · intro h
    have h1 : i + y.length ≤ x.length := by
      have := h.length_le
      have hp : 0 < y.cps.toList.length := List.length_pos_iff.mpr hy
      simp [Str.length] at *
      omega
    exact ⟨h1, (subAt_iff x y i h1).mpr h⟩
theorem glued_fold : ∀ (l : List PySem.Str) (acc : Array Nat), ((l.foldl (fun acc p => acc ++ (Str.ofString "").cps ++ p.cps) acc).toList) = acc.toList ++ (l.map (·.cps.toList)).flatten
  | [], acc => by simp
  | p :: r, acc => by
    rw [List.foldl_cons, glued_fold r]
    have e : (Str.ofString "").cps = #[] := by decide +kernel
    rw [e]
    simp
theorem join_cps : ∀ (l : List PySem.Str), (Txt.join (Str.ofString "") l).cps.toList = (l.map (·.cps.toList)).flatten
  | [] => by decide +kernel
  | p :: r => by
    show ((r.foldl (fun acc p => acc ++ (Str.ofString "").cps ++ p.cps) p.cps).toList) = _
    rw [glued_fold]
    simp

theorem before_idx {a b : Nat} : ∀ {g : List Nat} {ia ib : Nat}, g.Nodup → a ≠ b → g[ia]? = some a → g[ib]? = some b → before a b g = decide (ia < ib)
  | c :: r, ia, ib, hn, hab, ha, hb => by
    have hc := (List.nodup_cons.mp hn).1
    unfold before
    cases ia with
    | zero =>
      simp at ha
      subst ha
      rw [if_pos rfl]
      cases ib with
      | zero => simp at hb; exact absurd hb hab
      | succ ib =>
        have := List.mem_of_getElem? (show r[ib]? = some b from hb)
        simp [this]
    | succ ia =>
      have ham := List.mem_of_getElem? (show r[ia]? = some a from ha)
      have hca : c ≠ a := fun e => hc (e ▸ ham)
      rw [if_neg hca]
      cases ib with
      | zero =>
        simp at hb
        subst hb
        rw [before_none hc]
        simp
      | succ ib =>
        rw [before_idx (List.nodup_cons.mp hn).2 hab (show r[ia]? = some a from ha) (show r[ib]? = some b from hb)]
        simp
theorem ell_before {names : List PySem.Str} {g : List Nat} {a b : Nat} (hf : ∀ m ∈ g, Framed (gs names (m : Nat)).cps.toList) (hinj : ∀ m ∈ g, ∀ m' ∈ g, gs names (m : Nat) = gs names (m' : Nat) → m = m') (hn : g.Nodup) (ha : a ∈ g) (hb : b ∈ g) (hab : a ≠ b) :
    ellRun (lineOf names g) [Str.ofString "", gs names (a : Nat), gs names (b : Nat), Str.ofString ""] 0 = before a b g := by
  obtain ⟨ia, hia⟩ := List.getElem?_of_mem ha
  obtain ⟨ib, hib⟩ := List.getElem?_of_mem hb
  rw [before_idx hn hab hia hib]
  have z0 : (Str.ofString "").length = 0 := by decide +kernel
  have hlen : (lineOf names g).length = ((g.map fun m => (gs names (m : Nat)).cps.toList).flatten).length := by
    have := join_cps (g.map fun (m : Nat) => gs names (m : Int))
    rw [List.map_map] at this
    show (lineOf names g).cps.size = _
    rw [← Array.length_toList]
    exact congrArg List.length this
  have hcps : (lineOf names g).cps.toList = (g.map fun m => (gs names (m : Nat)).cps.toList).flatten := by
    have := join_cps (g.map fun (m : Nat) => gs names (m : Int))
    rw [List.map_map] at this
    exact this
  generalize hts : (g.map fun m => (gs names (m : Nat)).cps.toList) = ts at hlen hcps
  have hft : ∀ t ∈ ts, Framed t := fun t ht => by
    rw [← hts] at ht
    obtain ⟨m, hm, rfl⟩ := List.mem_map.mp ht
    exact hf m hm
  have tokA : ∀ {m k : Nat}, g[k]? = some m → ts[k]? = some (gs names (m : Nat)).cps.toList := fun {m k} h => by
    rw [← hts, List.getElem?_map, h]; rfl
  have only : ∀ {m k i : Nat}, g[k]? = some m → At (lineOf names g) (gs names (m : Nat)) (lineOf names g).length i → i = begins ts k := fun {m k i} h hat => by
    have hm := List.mem_of_getElem? h
    rw [at_iff _ _ _ (framed_ne (hf m hm)), hcps] at hat
    obtain ⟨k', hk', e⟩ := tok_at (hf m hm) hft hat
    rw [← hts, List.getElem?_map] at hk'
    cases hg : g[k']? with
    | none => rw [hg] at hk'; cases hk'
    | some m' =>
      rw [hg] at hk'
      have hm' := List.mem_of_getElem? hg
      have e2 : gs names (m' : Nat) = gs names (m : Nat) := by
        have : (gs names (m' : Nat)).cps.toList = (gs names (m : Nat)).cps.toList := by simpa using hk'
        have h2 := Array.toList_inj.mp this
        cases hx : gs names (m' : Nat); cases hy : gs names (m : Nat)
        rw [hx, hy] at h2
        exact congrArg _ h2
      have e3 := hinj m' hm' m hm e2
      subst e3
      have hk1 := (List.getElem?_eq_some_iff.mp h)
      have hk2 := (List.getElem?_eq_some_iff.mp hg)
      have : k' = k := (List.getElem_inj hn).mp (hk2.2.trans hk1.2.symm)
      subst this
      exact e
  have there : ∀ {m k : Nat}, g[k]? = some m → At (lineOf names g) (gs names (m : Nat)) (lineOf names g).length (begins ts k) := fun {m k} h => by
    rw [at_iff _ _ _ (framed_ne (hf m (List.mem_of_getElem? h))), hcps]
    exact at_tok (tokA h)
  have empty : ∀ p : Nat, p ≤ (lineOf names g).length → find4 (lineOf names g) (Str.ofString "") p (lineOf names g).length = p := fun p hp => by
    have hat : At (lineOf names g) (Str.ofString "") (lineOf names g).length p := ⟨by rw [z0]; omega, by
      rw [subAt_iff _ _ _ (by rw [z0]; omega)]
      have e : (Str.ofString "").cps.toList = [] := by decide +kernel
      rw [e]; exact List.nil_prefix⟩
    rcases find_spec (lineOf names g) (Str.ofString "") p hp with ⟨_, h2⟩ | ⟨i, h1, h2, _, h4⟩
    · exact absurd hat (h2 p (Nat.le_refl _))
    · rcases Nat.lt_or_ge p i with h | h
      · exact absurd hat (h4 p (Nat.le_refl _) h)
      · rw [h1]; have : i = p := by omega
        rw [this]
  have lenA : ∀ {m k : Nat}, g[k]? = some m → begins ts (k + 1) = begins ts k + (gs names (m : Nat)).length := fun {m k} h => by
    rw [begins_next (tokA h)]
    simp [Str.length]
  have ble : ∀ k, begins ts k ≤ (lineOf names g).length := fun k => by rw [hlen]; exact begins_le
  have f1 : find4 (lineOf names g) (gs names (a : Nat)) (0 : Nat) (lineOf names g).length = (begins ts ia : Nat) := by
    rcases find_spec (lineOf names g) (gs names (a : Nat)) 0 (Nat.zero_le _) with ⟨_, h2⟩ | ⟨i, h1, _, h3, _⟩
    · exact absurd (there hia) (h2 _ (Nat.zero_le _))
    · rw [h1, only hia h3]
  have f0 := empty 0 (Nat.zero_le _)
  have e0 : ((0 : Nat) : Int) + ((Str.ofString "").length : Int) = ((0 : Nat) : Int) := by rw [z0]; rfl
  unfold ellRun
  rw [show (0 : Int) = ((0 : Nat) : Int) from rfl, f0, if_neg (by omega), e0]
  unfold ellRun
  rw [f1, if_neg (by omega), show ((begins ts ia : Nat) : Int) + ((gs names (a : Nat)).length : Int) = ((begins ts (ia + 1) : Nat) : Int) by rw [lenA hia]; omega]
  unfold ellRun
  have hbs : begins ts (ib + 1) = begins ts ib + (gs names (b : Nat)).length := lenA hib
  have hblen : 0 < (gs names (b : Nat)).length := by
    have := List.length_pos_iff.mpr (framed_ne (hf b hb))
    simpa [Str.length] using this
  rcases find_spec (lineOf names g) (gs names (b : Nat)) (begins ts (ia + 1)) (ble _) with ⟨h1, h2⟩ | ⟨i, h1, h2, h3, _⟩
  · rw [h1, if_pos (by decide)]
    have : ¬ ia < ib := fun hlt => h2 _ (begins_mono hlt) (there hib)
    simp [this]
  · rw [h1, if_neg (by omega)]
    have hi := only hib h3
    subst hi
    have hlt : ia < ib := by
      rcases Nat.lt_or_ge ia ib with h | h
      · exact h
      · have h5 := begins_mono (ts := ts) (show ib + 1 ≤ ia + 1 by omega)
        omega
    rw [show ((begins ts ib : Nat) : Int) + ((gs names (b : Nat)).length : Int) = ((begins ts (ib + 1) : Nat) : Int) by rw [hbs]; omega]
    unfold ellRun
    rw [empty _ (ble _), if_neg (by omega)]
    unfold ellRun
    simp [hlt]
theorem keep_before {names : List PySem.Str} {outers worths : List Int} {i : Nat} {g : List Nat} (hf : ∀ m ∈ g, Framed (gs names (m : Nat)).cps.toList) (hinj : ∀ m ∈ g, ∀ m' ∈ g, gs names (m : Nat) = gs names (m' : Nat) → m = m') (hn : g.Nodup) (hi : i ∈ g)
    (h0 : 0 ≤ gi outers (i : Nat)) (ho : (gi outers (i : Nat)).toNat ∈ g) (hne : (gi outers (i : Nat)).toNat ≠ i) :
    keepB names outers worths i g = if oddAt worths i = true then before i (gi outers (i : Nat)).toNat g else before (gi outers (i : Nat)).toNat i g := by
  have hnm : nmAt names (gi outers (i : Nat)) = gs names ((gi outers (i : Nat)).toNat : Nat) := by
    unfold nmAt
    rw [if_neg (by omega), Int.toNat_of_nonneg h0]
  have hd : decide (gi outers (i : Nat) < 0) = false := by simp; omega
  unfold keepB earlyOf lateOf oddAt
  rw [hd, Bool.false_or, hnm]
  split
  · exact ell_before hf hinj hn hi ho (Ne.symm hne)
  · exact ell_before hf hinj hn ho hi hne
end Mine
end

section
set_option maxRecDepth 100000
namespace Mine
open PySem.StrLaws PySem.Builtin PySem.Builtin.Str
noncomputable def all12n : List PySem.Str := all12.map fun a => spc ++ a ++ com
theorem app_cps (x y : PySem.Str) : (x ++ y).cps.toList = x.cps.toList ++ y.cps.toList := by
  show (x.cps ++ y.cps).toList = _; simp
theorem str_ext {x y : PySem.Str} (h : x.cps.toList = y.cps.toList) : x = y := by
  cases x; cases y
  exact congrArg _ (Array.toList_inj.mp h)

/-! a walk over places: those without a find are passed by -/
theorem walk_skip {x y : PySem.Str} {hi lim : Nat} {st : Array Nat × Nat} (r : List Nat) : ∀ (l : List Nat), (∀ i ∈ l, i < st.2 ∨ ¬ At x y hi i) → (forIn (l ++ r) st (occBody x y hi lim)).run = (forIn r st (occBody x y hi lim)).run := fun l => by
  induction l with
  | nil => intro _; rfl
  | cons i l ih =>
    intro h
    have hc : ¬ (((st.fst.size < lim ∧ st.snd ≤ i) ∧ i + y.length ≤ hi) ∧ subAt x y i = true) := fun c => by
      rcases h i List.mem_cons_self with h1 | h1
      · exact absurd c.1.1.2 (Nat.not_le_of_lt h1)
      · exact h1 ⟨c.1.2, c.2⟩
    rw [List.cons_append, List.forIn_cons]
    unfold occBody
    rw [if_neg hc]
    exact ih fun j hj => h j (List.mem_cons_of_mem _ hj)
theorem walk_hit {x y : PySem.Str} {hi lim i : Nat} {st : Array Nat × Nat} (r : List Nat) (h1 : st.1.size < lim) (h2 : st.2 ≤ i) (h3 : At x y hi i) : (forIn (i :: r) st (occBody x y hi lim)).run = (forIn r (st.1.push i, i + y.length) (occBody x y hi lim)).run := by
  have hc : ((st.fst.size < lim ∧ st.snd ≤ i) ∧ i + y.length ≤ hi) ∧ subAt x y i = true := ⟨⟨⟨h1, h2⟩, h3.1⟩, h3.2⟩
  rw [List.forIn_cons]
  unfold occBody
  rw [if_pos hc]
  rfl

theorem dots_cps : dots.cps.toList = [46, 46, 46] := by decide +kernel
theorem dots_at {x : PySem.Str} {i : Nat} (h : At x dots x.length i) : x.cps.toList[i]? = some 46 := by
  have := (at_iff x dots i (by rw [dots_cps]; exact List.cons_ne_nil _ _)).mp h
  rw [dots_cps] at this
  obtain ⟨t, ht⟩ := this
  rw [← List.head?_drop, ← ht]
  rfl
section
variable {x : PySem.Str} {A B : List Nat} (hx : x.cps.toList = [46, 46, 46] ++ (A ++ ([46, 46, 46] ++ (B ++ [46, 46, 46])))) (hA : 46 ∉ A) (hB : 46 ∉ B)
include hx in
theorem dots_len : x.length = A.length + B.length + 9 := by
  show x.cps.size = _
  rw [← Array.length_toList, hx]
  simp only [List.length_append, List.length_cons, List.length_nil]
  omega
include hx in
theorem dots_drop1 : x.cps.toList.drop (A.length + 3) = [46, 46, 46] ++ (B ++ [46, 46, 46]) := by
  rw [hx, ← List.append_assoc, List.drop_left' (by rw [List.length_append, Nat.add_comm]; rfl)]
include hx in
theorem dots_drop2 : x.cps.toList.drop (A.length + B.length + 6) = [46, 46, 46] := by
  rw [show A.length + B.length + 6 = (A.length + 3) + (3 + B.length) by omega, ← List.drop_drop, dots_drop1 hx, ← List.append_assoc, List.drop_left' (by rw [List.length_append]; rfl)]
include hx hA in
theorem dots_noA {i : Nat} (h1 : 3 ≤ i) (h2 : i < A.length + 3) : ¬ At x dots x.length i := fun h => by
  have := dots_at h
  rw [hx, List.getElem?_append_right h1, List.getElem?_append_left (show i - [46, 46, 46].length < A.length from Nat.sub_lt_right_of_lt_add h1 h2)] at this
  exact hA (List.mem_of_getElem? this)
include hx hB in
theorem dots_noB {i : Nat} (h1 : A.length + 6 ≤ i) (h2 : i < A.length + B.length + 6) : ¬ At x dots x.length i := fun h => by
  obtain ⟨j, rfl⟩ := Nat.exists_eq_add_of_le h1
  have hj : j < B.length := by clear h hx hB h1; omega
  have := dots_at h
  rw [show A.length + 6 + j = (A.length + 3) + (3 + j) from Nat.add_assoc (A.length + 3) 3 j, ← List.getElem?_drop, dots_drop1 hx, List.getElem?_append_right (show 3 ≤ 3 + j from Nat.le_add_right 3 j), show 3 + j - [46, 46, 46].length = j from Nat.add_sub_cancel_left 3 j, List.getElem?_append_left hj] at this
  exact hB (List.mem_of_getElem? this)
theorem dots_hit {i : Nat} {t : List Nat} (h : x.cps.toList.drop i = [46, 46, 46] ++ t) : At x dots x.length i := by
  refine (at_iff x dots i (by rw [dots_cps]; exact List.cons_ne_nil _ _)).mpr ?_
  rw [dots_cps, h]
  exact List.prefix_append _ _
include hx hA hB in
theorem dots_occ : occurrences x dots 0 x.length (x.length + 1) = [0, A.length + 3, A.length + B.length + 6] := by
  have hl := dots_len hx
  have e : List.range' 0 (x.length + 1 - 0) = 0 :: (List.range' 1 (A.length + 2) ++ (A.length + 3) :: (List.range' (A.length + 4) (B.length + 2) ++ (A.length + B.length + 6) :: (List.range' (A.length + B.length + 7) 3 ++ []))) := by
    rw [List.append_nil, hl, show A.length + B.length + 9 + 1 - 0 = (A.length + 2 + (B.length + 2 + (3 + 1) + 1)) + 1 by omega, List.range'_succ, ← List.range'_append_1 (s := 0 + 1) (m := A.length + 2), List.range'_succ (s := 0 + 1 + (A.length + 2)), show B.length + 6 = B.length + 2 + (3 + 1) from rfl, ← List.range'_append_1 (s := 0 + 1 + (A.length + 2) + 1) (m := B.length + 2), List.range'_succ (n := 3)]
    rw [show 0 + 1 + (A.length + 2) = A.length + 3 by omega, show A.length + 3 + 1 + (B.length + 2) = A.length + B.length + 6 by omega]
  have d3 : dots.length = 3 := by show dots.cps.size = 3; rw [← Array.length_toList, dots_cps]; rfl
  rw [occ_eq, e, walk_hit (i := 0) (st := (#[], 0)) _ (Nat.zero_lt_succ _) (Nat.le_refl _) (dots_hit (t := A ++ ([46, 46, 46] ++ (B ++ [46, 46, 46]))) hx), d3]
  rw [walk_skip, walk_hit _ (by show 1 < _; omega) (by show 3 ≤ _; omega) (dots_hit (dots_drop1 hx)), d3, walk_skip, walk_hit _ (by show 2 < _; omega) (by show A.length + 3 + 3 ≤ _; omega) (dots_hit (t := []) (dots_drop2 hx)), d3, walk_skip]
  · rfl
  · intro i hi
    have := List.mem_range'_1.mp hi
    exact .inr fun h => by have := h.1; omega
  · intro i hi
    have := List.mem_range'_1.mp hi
    by_cases h : i < A.length + 6
    · exact .inl h
    · exact .inr (dots_noB hx hB (by omega) (by omega))
  · intro i hi
    have := List.mem_range'_1.mp hi
    by_cases h : i < 3
    · exact .inl h
    · exact .inr (dots_noA hx hA (by omega) (by omega))
end
section
variable {a b : PySem.Str} (ha : 46 ∉ a.cps.toList) (hb : 46 ∉ b.cps.toList)
theorem line_cps (a b : PySem.Str) : (dots ++ a ++ dots ++ b ++ dots).cps.toList = [46, 46, 46] ++ (a.cps.toList ++ ([46, 46, 46] ++ (b.cps.toList ++ [46, 46, 46]))) := by
  simp only [app_cps, dots_cps, List.append_assoc]
theorem dots_has (a b : PySem.Str) : Txt.contains (dots ++ a ++ dots ++ b ++ dots) dots = true :=
  (found_iff _ _).mpr ⟨0, dots_hit (line_cps a b)⟩
theorem sub_cps' (x : PySem.Str) (i j : Nat) : (strSub x i j).cps.toList = (x.cps.toList.drop i).take (j - i) := by
  show (x.cps.extract i j).toList = _
  rw [Array.toList_extract]
include ha hb in
theorem dots_parts : Txt.split (dots ++ a ++ dots ++ b ++ dots) dots = [Str.ofString "", a, b, Str.ofString ""] := by
  have hx := line_cps a b
  have ho := dots_occ hx ha hb
  have hl := dots_len hx
  generalize dots ++ a ++ dots ++ b ++ dots = x at hx ho hl
  have d3 : dots.length = 3 := by show dots.cps.size = 3; rw [← Array.length_toList, dots_cps]; rfl
  have k1 : PySem.Builtin.Str.strKind dots = 1 := by decide +kernel
  have k2 : ¬ PySem.Builtin.Str.strKind x < 1 := by unfold PySem.Builtin.Str.strKind; split; decide; split <;> decide
  have e0 : (Str.ofString "").cps.toList = [] := by decide +kernel
  unfold Txt.split
  rw [ho, if_neg (by rw [k1, d3, hl]; simp only [Bool.or_eq_true, decide_eq_true_eq, not_or]; exact ⟨by omega, k2⟩), if_neg (by exact Bool.false_ne_true), d3]
  show [strSub x 0 0, strSub x (0 + 3) (a.cps.toList.length + 3), strSub x (a.cps.toList.length + 3 + 3) (a.cps.toList.length + b.cps.toList.length + 6), strSub x (a.cps.toList.length + b.cps.toList.length + 6 + 3) x.length] = _
  have p1 : strSub x 0 0 = Str.ofString "" := str_ext (by rw [sub_cps', e0]; rfl)
  have p2 : strSub x (0 + 3) (a.cps.toList.length + 3) = a := str_ext (by
    rw [sub_cps', hx, List.drop_left' (by rfl), List.take_left' (by omega)])
  have p3 : strSub x (a.cps.toList.length + 3 + 3) (a.cps.toList.length + b.cps.toList.length + 6) = b := str_ext (by
    rw [sub_cps', ← List.drop_drop, dots_drop1 hx, List.drop_left' (by rfl), List.take_left' (by omega)])
  have p4 : strSub x (a.cps.toList.length + b.cps.toList.length + 6 + 3) x.length = Str.ofString "" := str_ext (by
    rw [sub_cps', e0, hl, Nat.sub_self, List.take_zero])
  rw [p1, p2, p3, p4]
end
theorem n12_short : ∀ a ∈ all12n, a.length ≤ 100 := by decide +kernel
theorem n12_free : ∀ a ∈ all12n, 46 ∉ a.cps.toList := by decide +kernel
theorem n12_has : ∀ a ∈ all12n, ∀ b ∈ all12n, Txt.contains (dots ++ a ++ dots ++ b ++ dots) dots = true := fun a _ b _ => dots_has a b
theorem n12_parts : ∀ a ∈ all12n, ∀ b ∈ all12n, Txt.split (dots ++ a ++ dots ++ b ++ dots) dots = [Str.ofString "", a, b, Str.ofString ""] := fun a ha b hb => dots_parts (n12_free a ha) (n12_free b hb)
end Mine
end

section
set_option maxRecDepth 100000
namespace Mine
theorem all12_free : ∀ a ∈ all12, 32 ∉ a.cps.toList ∧ 44 ∉ a.cps.toList := by decide +kernel
theorem want_cps (s k : Int) : (wantOf s k).cps.toList = 32 :: (gs all12 (k + s)).cps.toList ++ [44] := by
  unfold wantOf
  rw [app_cps, app_cps]
  have e1 : spc.cps.toList = [32] := by decide +kernel
  have e2 : com.cps.toList = [44] := by decide +kernel
  rw [e1, e2]; rfl
theorem want_framed {s k : Int} (h0 : 0 ≤ k + s) (h1 : k + s < 12) : Framed (wantOf s k).cps.toList := by
  have hm : gs all12 (k + s) ∈ all12 := gs_mem h0 (by simpa [all12] using h1)
  exact ⟨_, want_cps s k, (all12_free _ hm).1, (all12_free _ hm).2⟩
theorem all12_inj : ∀ i : Fin 12, ∀ j : Fin 12, gs all12 (i.1 : Int) = gs all12 (j.1 : Int) → i = j := by decide +kernel
theorem want_inj {s k k' : Int} (h0 : 0 ≤ k + s) (h1 : k + s < 12) (h0' : 0 ≤ k' + s) (h1' : k' + s < 12) (h : wantOf s k = wantOf s k') : k = k' := by
  have e := congrArg (fun x : PySem.Str => x.cps.toList) h
  simp only [want_cps] at e
  have e2 : (gs all12 (k + s)).cps.toList = (gs all12 (k' + s)).cps.toList := by simpa using e
  have e3 : gs all12 (k + s) = gs all12 (k' + s) := by
    have h2 := Array.toList_inj.mp e2
    cases hx : gs all12 (k + s); cases hy : gs all12 (k' + s)
    rw [hx, hy] at h2
    exact congrArg _ h2
  have ei : (k + s) = (((k + s).toNat : Nat) : Int) := by omega
  have ej : (k' + s) = (((k' + s).toNat : Nat) : Int) := by omega
  rw [ei, ej] at e3
  have := all12_inj ⟨(k + s).toNat, by omega⟩ ⟨(k' + s).toNat, by omega⟩ e3
  have := Fin.mk.inj this
  omega
theorem listed_all12 : ∀ m, m < 12 → listedOf m = gs all12 (m : Nat) := by decide +kernel
theorem gs_map {f : Int → PySem.Str} {ks : List Int} {m : Nat} (h : m < ks.length) : gs (ks.map f) (m : Nat) = f (gi ks (m : Nat)) := by
  simp [gs, gi, h]
section
variable {ks : List Int} {s : Int} (klen : ks.length = 5) (kn : ks.Nodup) (kb : ∀ k ∈ ks, 0 ≤ k ∧ k < 5) (hs : 0 ≤ s ∧ s < 8)
include kb hs in
theorem want_mem {a : PySem.Str} (h : a ∈ ks.map (wantOf s)) : a ∈ all12n := by
  obtain ⟨k, hk, rfl⟩ := List.mem_map.mp h
  have := kb k hk
  exact List.mem_map.mpr ⟨gs all12 (k + s), gs_mem (by omega) (by simp [all12]; omega), rfl⟩
include klen kb hs in
theorem names_ok : NamesOk (ks.map (wantOf s)) :=
  ⟨by rw [List.length_map, klen], fun a ha => n12_short a (want_mem kb hs ha), fun a ha b hb => n12_has a (want_mem kb hs ha) b (want_mem kb hs hb), fun a ha b hb => n12_parts a (want_mem kb hs ha) b (want_mem kb hs hb)⟩
include klen kb hs in
theorem names_framed {m : Nat} (hm : m < 5) : Framed (gs (ks.map (wantOf s)) (m : Nat)).cps.toList := by
  rw [gs_map (by omega)]
  have := kb _ (mem_gi (ws := ks) (k := (m : Nat)) (by omega) (by omega))
  exact want_framed (by omega) (by omega)
include klen kn kb hs in
theorem names_inj {m m' : Nat} (hm : m < 5) (hm' : m' < 5) (h : gs (ks.map (wantOf s)) (m : Nat) = gs (ks.map (wantOf s)) (m' : Nat)) : m = m' := by
  rw [gs_map (by omega), gs_map (by omega)] at h
  have h1 := kb _ (mem_gi (ws := ks) (k := (m : Nat)) (by omega) (by omega))
  have h2 := kb _ (mem_gi (ws := ks) (k := (m' : Nat)) (by omega) (by omega))
  have e := want_inj (by omega) (by omega) (by omega) (by omega) h
  have e1 : gi ks (m : Nat) = ks[m] := by simp [gi, klen, hm]
  have e2 : gi ks (m' : Nat) = ks[m'] := by simp [gi, klen, hm']
  rw [e1, e2] at e
  exact (List.getElem_inj kn).mp e
end
end Mine
end

section
set_option maxRecDepth 100000
namespace Mine
open PySem.StrLaws PySem.Builtin PySem.Builtin.Str

theorem str_len (x : PySem.Str) : x.length = x.cps.toList.length := by simp [Str.length]
theorem slice_cps (x : PySem.Str) {a b : Nat} (hab : a ≤ b) (hb : b ≤ x.length) : (Txt.slice x (some (a : Int)) (some (b : Int))).cps.toList = (x.cps.toList.drop a).take (b - a) := by
  unfold Txt.slice
  rw [strSliceIndices_plain hab hb]
  split
  · rename_i h
    have : b - a = x.length := by simpa using h
    have ha : a = 0 := by omega
    subst ha
    rw [List.drop_zero, List.take_of_length_le (by rw [← str_len]; omega)]
  · have := picks x.cps.toList (b - a) a (by rw [← str_len]; omega)
    simpa using this
theorem slice_tail (x : PySem.Str) {a : Nat} (ha : a ≤ x.length) : (Txt.slice x (some (a : Int)) none).cps.toList = x.cps.toList.drop a := by
  have e : Txt.slice x (some (a : Int)) none = Txt.slice x (some (a : Int)) (some (x.length : Int)) := by
    unfold Txt.slice
    rw [sliceIdx_none_hi]
  rw [e, slice_cps x ha (Nat.le_refl _), List.take_of_length_le (by simp [str_len])]

theorem escOpen_app : ∀ (l r : List Nat) (b : Bool), escOpen b (l ++ r) = escOpen (escOpen b l) r
  | [], r, b => rfl
  | c :: l, r, true => by simp only [List.cons_append, escOpen]; exact escOpen_app l r false
  | c :: l, r, false => by simp only [List.cons_append, escOpen]; exact escOpen_app l r _
theorem escPairs_app : ∀ (l r : List Nat) (i : Nat) (b : Bool), escPairs i b (l ++ r) = escPairs i b l ++ escPairs (i + l.length) (escOpen b l) r
  | [], r, i, b => rfl
  | c :: l, r, i, true => by
    simp only [List.cons_append, escPairs, escOpen, List.length_cons]
    rw [escPairs_app l r (i + 1) false, show i + 1 + l.length = i + (l.length + 1) by omega]
  | c :: l, r, i, false => by
    simp only [List.cons_append, escPairs, escOpen, List.length_cons]
    by_cases h : (⟨#[c]⟩ == bsl : Bool) = true
    · rw [if_pos h, if_pos h, escPairs_app l r (i + 1) true, show i + 1 + l.length = i + (l.length + 1) by omega, h]
    · rw [if_neg h, if_neg h, escPairs_app l r (i + 1) false, show i + 1 + l.length = i + (l.length + 1) by omega, Bool.eq_false_iff.mpr h]
      rfl
theorem one_eq (c : Nat) (x : PySem.Str) (d : Nat) (hx : x.cps = #[d]) : ((⟨#[c]⟩ : PySem.Str) == x) = (c == d) := by
  rw [Bool.eq_iff_iff, beq_iff_eq, beq_iff_eq]
  constructor
  · intro h; rw [← h] at hx; simpa using hx
  · intro h; subst h
    cases x
    exact congrArg _ hx.symm
theorem quo_cps : quo.cps = #[34] := by decide +kernel
theorem bsl_cps : bsl.cps = #[92] := by decide +kernel
theorem parL_cps : parL.cps = #[40] := by decide +kernel
theorem parR_cps : parR.cps = #[41] := by decide +kernel
theorem two_ne (c : Nat) (x : PySem.Str) (d : Nat) (hx : x.cps = #[d]) : ((bsl ++ (⟨#[c]⟩ : PySem.Str)) == x) = false := by
  rw [beq_eq_false_iff_ne]
  intro h
  have := congrArg (fun y : PySem.Str => y.cps.size) h
  simp only [hx] at this
  have e : (bsl ++ (⟨#[c]⟩ : PySem.Str)).cps = bsl.cps ++ #[c] := rfl
  rw [e, bsl_cps] at this
  simp at this
/-- no mark, no mark's pair -/
theorem no_quo : ∀ {l : List Nat} {i : Nat} {b : Bool}, 34 ∉ l → ∀ p ∈ escPairs i b l, (p.2 == quo) = false
  | [], i, b, _, p, hp => by simp [escPairs] at hp
  | c :: l, i, true, h, p, hp => by
    simp only [escPairs, List.mem_cons] at hp
    rcases hp with rfl | hp
    · exact two_ne c quo 34 quo_cps
    · exact no_quo (fun e => h (List.mem_cons_of_mem _ e)) p hp
  | c :: l, i, false, h, p, hp => by
    simp only [escPairs] at hp
    split at hp
    · exact no_quo (fun e => h (List.mem_cons_of_mem _ e)) p hp
    · rcases List.mem_cons.mp hp with rfl | hp
      · show ((⟨#[c]⟩ : PySem.Str) == quo) = false
        rw [one_eq c quo 34 quo_cps]
        simp
        exact fun e => h (e ▸ List.mem_cons_self)
      · exact no_quo (fun e => h (List.mem_cons_of_mem _ e)) p hp
theorem strip_skip (txt : PySem.Str) : ∀ (l r : List (Int × PySem.Str)) (start : Int) (op : Option Int) (res : List PySem.Str), (∀ p ∈ l, (p.2 == quo) = false) → stripRun txt (l ++ r) start op res = stripRun txt r start op res
  | [], r, start, op, res, _ => rfl
  | (p, ch) :: l, r, start, op, res, h => by
    rw [List.cons_append]
    conv => lhs; unfold stripRun
    rw [if_neg (by rw [h (p, ch) List.mem_cons_self]; decide)]
    exact strip_skip txt l r start op res fun p' h' => h p' (List.mem_cons_of_mem _ h')
theorem contains_quo (x : PySem.Str) : Txt.contains x quo = decide (34 ∈ x.cps.toList) := by
  have : quo = ⟨#[34]⟩ := str_ext (by rw [quo_cps])
  rw [this]
  exact found_one x 34
theorem strip_plain {x : PySem.Str} (h : 34 ∉ x.cps.toList) : stripOf x = x := by
  unfold stripOf
  rw [contains_quo, if_neg (by simpa using h)]

noncomputable def quoted (dr : List Nat) : Prop := dr = [34, 40, 34] ∨ dr = [34, 41, 34] ∨ dr = [34, 92, 34, 41, 34]
theorem one_bsl (c : Nat) : ((⟨#[c]⟩ : PySem.Str) == bsl) = (c == 92) := one_eq c bsl 92 bsl_cps
theorem one_quo (c : Nat) : ((⟨#[c]⟩ : PySem.Str) == quo) = (c == 34) := one_eq c quo 34 quo_cps
theorem quoted_open {dr : List Nat} (h : quoted dr) : escOpen false dr = false := by
  rcases h with rfl | rfl | rfl <;> simp [escOpen, one_bsl]
theorem quoted_run {dr : List Nat} (h : quoted dr) (txt : PySem.Str) (i : Nat) (r : List (Int × PySem.Str)) (start : Int) (res : List PySem.Str) :
    stripRun txt (escPairs i false dr ++ r) start none res = stripRun txt r ((i : Int) + dr.length) none (if (start != (i : Int)) = true then res ++ [Txt.slice txt (some start) (some (i : Int))] else res) := by
  rcases h with rfl | rfl | rfl
  · simp [escPairs, one_bsl, one_quo, stripRun]
    rw [show (i : Int) + 1 + 1 + 1 = i + 3 by omega]
  · simp [escPairs, one_bsl, one_quo, stripRun]
    rw [show (i : Int) + 1 + 1 + 1 = i + 3 by omega]
  · simp [escPairs, one_bsl, one_quo, stripRun, two_ne 34 quo 34 quo_cps]
    rw [show (i : Int) + 1 + 1 + 1 + 1 + 1 = i + 5 by omega]
theorem strip_dress {x : PySem.Str} {A dr B : List Nat} (hx : x.cps.toList = A ++ dr ++ B) (hA : 34 ∉ A) (hB : 34 ∉ B) (hAo : escOpen false A = false) (hd : quoted dr) : (stripOf x).cps.toList = A ++ B := by
  have h34 : 34 ∈ x.cps.toList := by
    rw [hx]
    rcases hd with rfl | rfl | rfl <;> simp
  have hlen : x.length = A.length + dr.length + B.length := by rw [str_len, hx]; simp; omega
  unfold stripOf
  rw [contains_quo, if_pos (by simpa using h34)]
  have e : escs x = escPairs 0 false A ++ (escPairs A.length false dr ++ escPairs (A.length + dr.length) false B) := by
    unfold escs
    rw [hx, List.append_assoc, escPairs_app, hAo, escPairs_app, quoted_open hd, Nat.zero_add]
  rw [e, strip_skip _ _ _ _ _ _ (no_quo hA), quoted_run hd]
  have e2 := strip_skip x (escPairs (A.length + dr.length) false B) [] ((A.length : Int) + dr.length) none (if ((0 : Int) != (A.length : Int)) = true then [] ++ [Txt.slice x (some 0) (some (A.length : Int))] else []) (no_quo hB)
  rw [List.append_nil] at e2
  rw [e2, stripRun]
  dsimp only
  have s1 : (Txt.slice x (some 0) (some (A.length : Int))).cps.toList = A := by
    have := slice_cps x (a := 0) (b := A.length) (Nat.zero_le _) (by omega)
    rw [show (some (0 : Int)) = some ((0 : Nat) : Int) from rfl, this, hx]
    simp
  have s2 : (Txt.slice x (some ((A.length : Int) + dr.length)) none).cps.toList = B := by
    have := slice_tail x (a := A.length + dr.length) (by omega)
    rw [show ((A.length : Int) + dr.length) = ((A.length + dr.length : Nat) : Int) by omega, this, hx, show A.length + dr.length = (A ++ dr).length by simp, List.drop_left]
  rw [join_cps]
  by_cases hA0 : A.length = 0
  · have hAn : A = [] := List.length_eq_zero_iff.mp hA0
    subst hAn
    simp only [List.length_nil] at *
    split
    · rw [show ((0 : Nat) : Int) + (dr.length : Int) = ((dr.length : Nat) : Int) by omega] at s2
      simp [s2]
    · have : B = [] := List.length_eq_zero_iff.mp (by omega)
      subst this; simp
  · have hne : ((0 : Int) != (A.length : Int)) = true := by simp; omega
    rw [if_pos hne]
    split
    · simp [s1, s2]
    · have : B = [] := List.length_eq_zero_iff.mp (by omega)
      subst this; simp [s1]
end Mine
end

section
set_option maxRecDepth 100000
namespace Mine
open PySem.StrLaws PySem.Builtin PySem.Builtin.Str

noncomputable def pc (figs : List Int) (k : Int) : List Nat := if 0 ≤ k then [(64 + gi figs k).toNat, (65 + k).toNat, 40] else [41]
noncomputable def bareL (figs r : List Int) : List Nat := (r.map (pc figs)).flatten
noncomputable def dpc (figs : List Int) (dr : List Nat) (p k : Int) : List Nat := if k = p then dr ++ pc figs k else pc figs k
noncomputable def dressL (figs : List Int) (dr : List Nat) (p : Int) (r : List Int) : List Nat := (r.map (dpc figs dr p)).flatten
noncomputable def depthRun : List Int → Int → Bool
  | [], o => o == 0
  | k :: r, o => if 0 ≤ k then depthRun r (o + 1) else if o - 1 < 0 then false else depthRun r (o - 1)

structure Figs (figs : List Int) : Prop where
  len : figs.length = 5
  b : ∀ x ∈ figs, 0 ≤ x ∧ x < 64
section
variable {figs : List Int} (hf : Figs figs)
include hf in
theorem fig_b {k : Int} (h0 : 0 ≤ k) (h5 : k < 5) : 0 ≤ gi figs k ∧ gi figs k < 64 := hf.b _ (mem_gi h0 (by rw [hf.len]; exact h5))
include hf in
theorem pc_open {k : Int} (h5 : k < 5) : escOpen false (pc figs k) = false := by
  unfold pc
  split
  · rename_i h0
    have hb := fig_b hf h0 h5
    have e1 : ((65 + k).toNat == 92) = false := by simp; omega
    cases hc : ((64 + gi figs k).toNat == 92) <;> simp [escOpen, one_bsl, hc, e1]
  · simp [escOpen, one_bsl]
include hf in
theorem pc_free {k : Int} (h5 : k < 5) : 34 ∉ pc figs k := by
  unfold pc
  split
  · rename_i h0
    have hb := fig_b hf h0 h5
    simp
    omega
  · simp
theorem pc_len (k : Int) : (pc figs k).length ≤ 3 := by unfold pc; split <;> simp
include hf in
theorem pc_paren {k : Int} (h5 : k < 5) (i : Nat) (rest : List (Int × PySem.Str)) (o : Int) : parenRun (escPairs i false (pc figs k) ++ rest) o = if 0 ≤ k then parenRun rest (o + 1) else if o - 1 < 0 then false else parenRun rest (o - 1) := by
  have pl : ∀ c, ((⟨#[c]⟩ : PySem.Str) == parL) = (c == 40) := fun c => one_eq c parL 40 parL_cps
  have pr : ∀ c, ((⟨#[c]⟩ : PySem.Str) == parR) = (c == 41) := fun c => one_eq c parR 41 parR_cps
  have t1 : ∀ c, ((bsl ++ (⟨#[c]⟩ : PySem.Str)) == parL) = false := fun c => two_ne c parL 40 parL_cps
  have t2 : ∀ c, ((bsl ++ (⟨#[c]⟩ : PySem.Str)) == parR) = false := fun c => two_ne c parR 41 parR_cps
  unfold pc
  split
  · rename_i h0
    have hb := fig_b hf h0 h5
    have e1 : ((65 + k).toNat == 92) = false := by simp; omega
    have e2 : ((65 + k).toNat == 40) = false := by simp; omega
    have e3 : ((65 + k).toNat == 41) = false := by simp; omega
    have e4 : ((64 + gi figs k).toNat == 40) = false := by simp; omega
    have e5 : ((64 + gi figs k).toNat == 41) = false := by simp; omega
    cases hc : ((64 + gi figs k).toNat == 92) <;> simp only [escPairs, one_bsl, hc, e1, List.cons_append, List.nil_append, parenRun, pl, pr, t1, t2, e2, e3, e4, e5, if_true, Bool.false_eq_true, if_false, show ((40 : Nat) == 92) = false from rfl, show ((40 : Nat) == 40) = true from rfl]
  · simp only [escPairs, one_bsl, List.cons_append, List.nil_append, parenRun, pl, pr, Bool.false_eq_true, if_false, show ((41 : Nat) == 92) = false from rfl, show ((41 : Nat) == 40) = false from rfl, show ((41 : Nat) == 41) = true from rfl, if_true]
theorem bare_cons (k : Int) (r : List Int) : bareL figs (k :: r) = pc figs k ++ bareL figs r := rfl
theorem bare_app (r r' : List Int) : bareL figs (r ++ r') = bareL figs r ++ bareL figs r' := by simp [bareL]
include hf in
theorem bare_open : ∀ {r : List Int}, (∀ k ∈ r, k < 5) → escOpen false (bareL figs r) = false
  | [], _ => rfl
  | k :: r, h => by rw [bare_cons, escOpen_app, pc_open hf (h k List.mem_cons_self)]; exact bare_open fun k' h' => h k' (List.mem_cons_of_mem _ h')
include hf in
theorem bare_free : ∀ {r : List Int}, (∀ k ∈ r, k < 5) → 34 ∉ bareL figs r
  | [], _ => by simp [bareL]
  | k :: r, h => by
    rw [bare_cons, List.mem_append, not_or]
    exact ⟨pc_free hf (h k List.mem_cons_self), bare_free fun k' h' => h k' (List.mem_cons_of_mem _ h')⟩
theorem bareL_len : ∀ (r : List Int), (bareL figs r).length ≤ 3 * r.length
  | [] => by simp [bareL]
  | k :: r => by
    have h1 := pc_len (figs := figs) k
    have h2 := bareL_len r
    rw [bare_cons, List.length_append, List.length_cons]
    omega
include hf in
theorem bare_paren : ∀ {r : List Int} (i : Nat) (o : Int), (∀ k ∈ r, k < 5) → parenRun (escPairs i false (bareL figs r)) o = depthRun r o
  | [], i, o, _ => rfl
  | k :: r, i, o, h => by
    rw [bare_cons, escPairs_app, pc_open hf (h k List.mem_cons_self), pc_paren hf (h k List.mem_cons_self), depthRun, bare_paren _ _ fun k' h' => h k' (List.mem_cons_of_mem _ h'), bare_paren _ _ fun k' h' => h k' (List.mem_cons_of_mem _ h')]

variable {dr : List Nat} (hd : dr = [] ∨ quoted dr) {p : Int}
theorem dress_app (r r' : List Int) : dressL figs dr p (r ++ r') = dressL figs dr p r ++ dressL figs dr p r' := by simp [dressL]
theorem dress_cons (k : Int) (r : List Int) : dressL figs dr p (k :: r) = dpc figs dr p k ++ dressL figs dr p r := rfl
theorem dress_none : ∀ {r : List Int}, p ∉ r → dressL figs dr p r = bareL figs r
  | [], _ => rfl
  | k :: r, h => by
    rw [dress_cons, bare_cons, dress_none fun e => h (List.mem_cons_of_mem _ e)]
    unfold dpc
    rw [if_neg fun (e : k = p) => h (e ▸ List.mem_cons_self)]
theorem dress_nil : ∀ {r : List Int}, dressL figs [] p r = bareL figs r
  | [] => rfl
  | k :: r => by
    rw [dress_cons, bare_cons, dress_nil]
    unfold dpc
    split <;> simp
theorem dress_split {r : List Int} (h : p ∈ r) (hc : r.count p ≤ 1) : ∃ r1 r2, r = r1 ++ p :: r2 ∧ dressL figs dr p r = bareL figs r1 ++ dr ++ bareL figs (p :: r2) := by
  obtain ⟨r1, r2, rfl⟩ := List.append_of_mem h
  have h1 : p ∉ r1 ∧ p ∉ r2 := by
    rw [List.count_append, List.count_cons_self] at hc
    constructor
    · exact List.count_eq_zero.mp (by omega)
    · exact List.count_eq_zero.mp (by omega)
  refine ⟨r1, r2, rfl, ?_⟩
  rw [dress_app, dress_none h1.1, dress_cons, dress_none h1.2, bare_cons]
  unfold dpc
  rw [if_pos rfl]
  simp
include hf hd in
theorem dress_open {r : List Int} (hc : r.count p ≤ 1) (h5 : ∀ k ∈ r, k < 5) : escOpen false (dressL figs dr p r) = false := by
  by_cases hp : p ∈ r
  · obtain ⟨r1, r2, rfl, e⟩ := dress_split (figs := figs) (dr := dr) hp hc
    rw [e, escOpen_app, escOpen_app, bare_open hf fun k hk => h5 k (List.mem_append_left _ hk)]
    have ho : escOpen false dr = false := by
      rcases hd with rfl | hq
      · rfl
      · exact quoted_open hq
    rw [ho]
    exact bare_open hf fun k hk => h5 k (List.mem_append_right _ hk)
  · rw [dress_none hp]; exact bare_open hf h5
include hd in
theorem dressL_len (r : List Int) : (dressL figs dr p r).length ≤ 8 * r.length := by
  induction r with
  | nil => simp [dressL]
  | cons k r ih =>
    have h1 := pc_len (figs := figs) k
    have h2 : dr.length ≤ 5 := by rcases hd with rfl | rfl | rfl | rfl <;> simp
    rw [dress_cons, List.length_append, List.length_cons]
    have h3 : (dpc figs dr p k).length ≤ 8 := by
      unfold dpc
      split
      · rw [List.length_append]; omega
      · omega
    omega
include hf hd in
theorem strip_line {y : PySem.Str} {r : List Int} (hy : y.cps.toList = dressL figs dr p r) (hc : r.count p ≤ 1) (h5 : ∀ k ∈ r, k < 5) : (stripOf y).cps.toList = bareL figs r := by
  have plain : y.cps.toList = bareL figs r → (stripOf y).cps.toList = bareL figs r := fun e => by
    rw [strip_plain (by rw [e]; exact bare_free hf h5), e]
  by_cases hp : p ∈ r
  · rcases hd with rfl | hq
    · exact plain (by rw [hy, dress_nil])
    · obtain ⟨r1, r2, rfl, e⟩ := dress_split (figs := figs) (dr := dr) hp hc
      rw [e] at hy
      rw [strip_dress hy (bare_free hf fun k hk => h5 k (List.mem_append_left _ hk)) (bare_free hf fun k hk => h5 k (List.mem_append_right _ hk)) (bare_open hf fun k hk => h5 k (List.mem_append_left _ hk)) hq, ← bare_app]
  · exact plain (by rw [hy, dress_none hp])
include hf hd in
theorem line_ok {y : PySem.Str} {r : List Int} (hy : y.cps.toList = dressL figs dr p r) (hc : r.count p ≤ 1) (h5 : ∀ k ∈ r, k < 5) (hl : r.length ≤ 100) : TxtOk y := by
  refine ⟨?_, ?_, ?_, ?_⟩
  · rw [str_len, hy]
    have := dressL_len (figs := figs) (p := p) hd r
    omega
  · rw [hy]; exact dress_open hf hd hc h5
  · rw [str_len, strip_line hf hd hy hc h5]
    have := bareL_len (figs := figs) r
    omega
  · rw [strip_line hf hd hy hc h5]; exact bare_open hf h5
include hf hd in
theorem closes_line {y : PySem.Str} {r : List Int} (hy : y.cps.toList = dressL figs dr p r) (hc : r.count p ≤ 1) (h5 : ∀ k ∈ r, k < 5) : closesOf y = depthRun r 0 := by
  unfold closesOf escs
  rw [strip_line hf hd hy hc h5]
  exact bare_paren hf 0 0 h5
end
end Mine
end

section
set_option maxRecDepth 100000
namespace Mine
open PySem.StrLaws PySem.Builtin PySem.Builtin.Str

noncomputable def pOf (number : Int) : Int := (number.fdiv 64).fmod 5
noncomputable def drOf (number : Int) : List Nat := (dressOf number).cps.toList
theorem pOf_nonneg (number : Int) : 0 ≤ pOf number := Int.fmod_nonneg_of_pos _ (by decide)
theorem dr_ok (number : Int) : drOf number = [] ∨ quoted (drOf number) := by
  have h1 := Int.fmod_nonneg_of_pos (number.fdiv 320) (b := 4) (by decide)
  have h2 := Int.fmod_lt_of_pos (number.fdiv 320) (b := 4) (by decide)
  unfold drOf dressOf
  generalize (number.fdiv 320).fmod 4 = d at h1 h2
  unfold quoted
  obtain ⟨m, rfl⟩ := Int.eq_ofNat_of_zero_le h1
  have hm : m < 4 := Int.ofNat_lt.mp h2
  clear h1 h2
  rcases m with _ | _ | _ | _ | m
  · decide +kernel
  · decide +kernel
  · decide +kernel
  · decide +kernel
  · exact absurd hm (Nat.not_lt_of_le (Nat.le_add_left 4 m))
theorem bareText_cps (figs : List Int) (k : Int) : (bareText figs k).cps.toList = [(64 + gi figs k).toNat, (65 + k).toNat, 40] := by
  unfold bareText
  rw [app_cps, app_cps]
  have : (Str.ofString "(").cps.toList = [40] := by decide +kernel
  rw [this]; rfl
theorem text_cps (figs : List Int) (number k : Int) : (textOf figs number k).cps.toList = dpc figs (drOf number) (pOf number) k := by
  unfold textOf dpc pc
  have hp := pOf_nonneg number
  split
  · split
    · rename_i h
      have h : k = pOf number := by simpa [pOf] using h
      rw [if_pos h, app_cps, bareText_cps]; rfl
    · rename_i h
      have h : ¬ k = pOf number := by simpa [pOf] using h
      rw [if_neg h, bareText_cps]
  · rw [if_neg (by omega)]
    decide +kernel
section
variable {figs : List Int} {number : Int}
theorem join_texts (r : List Int) : (Txt.join (Str.ofString "") (r.map (textOf figs number))).cps.toList = dressL figs (drOf number) (pOf number) r := by
  rw [join_cps, List.map_map]
  unfold dressL
  congr 1
  exact List.map_congr_left fun k _ => text_cps figs number k
theorem place_eq (row : List Int) (i : Nat) : placeAt (row.map (textOf figs number)) i = ((dressL figs (drOf number) (pOf number) (row.take i)).length : Nat) := by
  unfold placeAt dressL
  congr 1
  rw [← List.map_take, List.length_flatten, List.map_map, List.map_map]
  congr 1
  refine List.map_congr_left fun k _ => ?_
  show (textOf figs number k).length = _
  rw [str_len, text_cps]; rfl
noncomputable def subl (row : List Int) (i m : Nat) : List Int := (row.drop i).take (m - i) ++ [-1]
theorem sub_cps {row : List Int} {line : PySem.Str} (hl : line.cps.toList = dressL figs (drOf number) (pOf number) row) {i m : Nat} (him : i ≤ m) (hm : m ≤ row.length) :
    (Txt.slice line (some (placeAt (row.map (textOf figs number)) i)) (some (placeAt (row.map (textOf figs number)) m)) ++ parR).cps.toList = dressL figs (drOf number) (pOf number) (subl row i m) := by
  have e1 : row.take m = row.take i ++ (row.drop i).take (m - i) := by
    rw [← List.take_add]; congr 1; omega
  have e2 : row = row.take i ++ (row.drop i).take (m - i) ++ row.drop m := by
    rw [← e1, List.take_append_drop]
  have hlen : line.length = (dressL figs (drOf number) (pOf number) row).length := by rw [str_len, hl]
  have h1 : (dressL figs (drOf number) (pOf number) (row.take m)).length = (dressL figs (drOf number) (pOf number) (row.take i)).length + (dressL figs (drOf number) (pOf number) ((row.drop i).take (m - i))).length := by rw [e1, dress_app, List.length_append]
  have h2 : dressL figs (drOf number) (pOf number) row = dressL figs (drOf number) (pOf number) (row.take i) ++ dressL figs (drOf number) (pOf number) ((row.drop i).take (m - i)) ++ dressL figs (drOf number) (pOf number) (row.drop m) := by
    rw [← dress_app, ← dress_app, ← e2]
  have h3 := congrArg List.length h2
  simp only [List.length_append] at h3
  rw [app_cps, place_eq, place_eq, slice_cps line (by omega) (by omega), hl, h2]
  have h4 : (dressL figs (drOf number) (pOf number) (row.take m)).length - (dressL figs (drOf number) (pOf number) (row.take i)).length = (dressL figs (drOf number) (pOf number) ((row.drop i).take (m - i))).length := by omega
  rw [List.append_assoc, List.drop_left, h4, List.take_left]
  unfold subl
  rw [dress_app]
  congr 1
  show parR.cps.toList = dpc figs (drOf number) (pOf number) (-1) ++ []
  unfold dpc pc
  have := pOf_nonneg number
  rw [if_neg (by omega), if_neg (by omega), parR_cps]
  rfl
theorem sub_count {row : List Int} {p : Int} (hp : 0 ≤ p) (hc : row.count p ≤ 1) (i m : Nat) : (subl row i m).count p ≤ 1 := by
  unfold subl
  rw [List.count_append, List.count_singleton, if_neg (by simp; omega)]
  have := ((List.take_sublist (m - i) (row.drop i)).trans (List.drop_sublist i row)).count_le p
  omega
theorem sub_lt {row : List Int} (h5 : ∀ k ∈ row, k < 5) (i m : Nat) : ∀ k ∈ subl row i m, k < 5 := fun k hk => by
  unfold subl at hk
  rcases List.mem_append.mp hk with h | h
  · exact h5 k (List.mem_of_mem_drop (List.mem_of_mem_take h))
  · simp at h; omega

/-! the outer ones, told by the row alone -/
noncomputable def outJR (row : List Int) (starts : List Nat) (outers : List Int) (k : Nat) : Nat → Int → Int
  | 0, j => j
  | n + 1, j => if j < 0 then j else if depthRun (subl row (starts.getD j.toNat 0) k) 0 = true then j else outJR row starts outers k n (gi outers j)
noncomputable def outRunR (row : List Int) : List Int → Nat → List Nat → List Int → List Int
  | [], _, _, outers => outers
  | x :: r, k, starts, outers => if 0 ≤ x then outRunR row r (k + 1) (starts ++ [k]) (outers ++ [outJR row starts outers k starts.length (starts.length - 1)]) else outRunR row r (k + 1) starts outers
noncomputable def outersRow (row : List Int) : List Int := outRunR row row 0 [] []

variable (hf : Figs figs) {row : List Int} (h5 : ∀ k ∈ row, k < 5) (hc : row.count (pOf number) ≤ 1) {line : PySem.Str} (hl : line.cps.toList = dressL figs (drOf number) (pOf number) row)
theorem gi_place (texts : List PySem.Str) (starts : List Nat) (j : Int) : gi (starts.map (placeAt texts)) j = placeAt texts (starts.getD j.toNat 0) := by
  unfold gi
  rw [List.getD_eq_getElem?_getD, List.getD_eq_getElem?_getD, List.getElem?_map]
  cases h : starts[j.toNat]? with
  | none => rfl
  | some v => rfl
include hf h5 hc hl in
theorem outJ_row {starts : List Nat} {outers : List Int} {k : Nat} (hk : k ≤ row.length) (hst : ∀ i ∈ starts, i ≤ k) : ∀ (n : Nat) (j : Int), outJ line (starts.map (placeAt (row.map (textOf figs number)))) outers (placeAt (row.map (textOf figs number)) k) n j = outJR row starts outers k n j
  | 0, j => rfl
  | n + 1, j => by
    have hle : starts.getD j.toNat 0 ≤ k := by
      rw [List.getD_eq_getElem?_getD]
      cases h : starts[j.toNat]? with
      | none => exact Nat.zero_le _
      | some v => exact hst v (List.mem_of_getElem? h)
    rw [outJ, outJR, gi_place, closes_line hf (dr_ok number) (sub_cps hl hle hk) (sub_count (pOf_nonneg number) hc _ _) (sub_lt h5 _ _), outJ_row hk hst n]
include hf h5 hc hl in
theorem outRun_row : ∀ (r : List Int) (k : Nat) (starts : List Nat) (outers : List Int), row.drop k = r → (∀ i ∈ starts, i ≤ k) → k ≤ row.length →
    outRun line (r.map (textOf figs number)) (placeAt (row.map (textOf figs number)) k) (starts.map (placeAt (row.map (textOf figs number)))) outers = outRunR row r k starts outers
  | [], k, starts, outers, _, _, _ => rfl
  | x :: r, k, starts, outers, hr, hst, hk => by
    obtain ⟨hx, hd⟩ := getElem_of_drop hr
    have hkl : k < row.length := (List.getElem?_eq_some_iff.mp hx).1
    have hp : placeAt (row.map (textOf figs number)) k + (textOf figs number x).length = placeAt (row.map (textOf figs number)) (k + 1) := (placeAt_succ (by rw [List.getElem?_map, hx]; rfl)).symm
    rw [List.map_cons, outRun, outRunR, hp]
    have hcps := text_cps figs number x
    have hpn := pOf_nonneg number
    by_cases h0 : 0 ≤ x
    · have hne : (textOf figs number x != parR) = true := by
        rw [bne_iff_ne]
        intro e
        rw [e, parR_cps] at hcps
        have := congrArg List.length hcps
        unfold dpc pc at this
        rw [if_pos h0] at this
        split at this <;> simp at this <;> omega
      rw [if_pos hne, if_pos h0, List.length_map, outJ_row hf h5 hc hl hk hst]
      have := outRun_row r (k + 1) (starts ++ [k]) (outers ++ [outJR row starts outers k starts.length (starts.length - 1)]) hd (fun i hi => by
        rcases List.mem_append.mp hi with h | h
        · have := hst i h; omega
        · simp at h; omega) hkl
      rw [List.map_append] at this
      exact this
    · have hne : ¬ (textOf figs number x != parR) = true := by
        have : textOf figs number x = parR := by
          refine str_ext ?_
          rw [hcps, parR_cps]
          unfold dpc pc
          rw [if_neg (by omega), if_neg h0]
        rw [this]; simp
      rw [if_neg hne, if_neg h0]
      exact outRun_row r (k + 1) starts outers hd (fun i hi => by have := hst i hi; omega) hkl
end
end Mine
end

section
set_option maxRecDepth 100000
namespace Mine

theorem bA1 : ∀ f : Fin 64, Builtin.bitAnd (64 + (f.1 : Int)) 63 = f.1 ∧ (Builtin.bitAnd (64 + (f.1 : Int)) 64 != 0) = true := by decide +kernel
theorem bA2 : ∀ k : Fin 5, Builtin.bitAnd (65 + (k.1 : Int)) 63 = k.1 + 1 ∧ (Builtin.bitAnd (65 + (k.1 : Int)) 64 != 0) = true := by decide +kernel
theorem bA3 : ∀ f : Fin 64, ∀ k : Fin 5, Builtin.bitOr ((f.1 : Int) * 2 ^ 6) (k.1 + 1) = 64 * f.1 + k.1 + 1 := by decide +kernel
theorem bA4 : ∀ f : Fin 64, ∀ k : Fin 5, Builtin.bitOr ((64 * (f.1 : Int) + k.1 + 1) * 2 ^ 6) 40 = 64 * (64 * f.1 + k.1 + 1) + 40 := by decide +kernel
theorem bA5 : Builtin.bitAnd 40 63 = 40 ∧ (Builtin.bitAnd 40 64 != 0) = false ∧ Builtin.bitAnd 41 63 = 41 ∧ (Builtin.bitAnd 41 64 != 0) = false := by decide +kernel
theorem vgo_end (val b : Int) (h : (Builtin.bitAnd b 64 != 0) = false) : ∀ r, vgo val b r = some (val, 0)
  | [] => by unfold vgo; rw [if_neg (by rw [h]; decide)]
  | c :: r => by unfold vgo; rw [if_neg (by rw [h]; decide)]
theorem vint_three (f : Fin 64) (k : Fin 5) (rest : List Int) : vint ((64 + (f.1 : Int)) :: (65 + (k.1 : Int)) :: 40 :: rest) = some (64 * (64 * (f.1 : Int) + (k.1 : Int) + 1) + 40, 3) := by
  have h1 := f.2
  have h2 := k.2
  rw [vint, (bA1 f).1]
  unfold vgo
  rw [if_pos (bA1 f).2, if_pos (by omega), (bA2 k).1, bA3 f k]
  unfold vgo
  rw [if_pos (bA2 k).2, if_pos (by omega), bA5.1, bA4 f k, vgo_end _ _ bA5.2.1]
  rfl
theorem vint_close (rest : List Int) : vint (41 :: rest) = some (41, 1) := by
  rw [vint, bA5.2.2.1, vgo_end _ _ bA5.2.2.2]
  rfl
noncomputable def octL (l : List Nat) : List Int := l.map fun (c : Nat) => (c : Int)
noncomputable def worthOf (figs : List Int) (k : Int) : Int := 64 * gi figs k + k + 1
noncomputable def ksOf (row : List Int) : List Int := row.filter fun k => decide (0 ≤ k)
noncomputable def negs (r : List Int) : Nat := (r.filter fun k => decide (k < 0)).length
noncomputable def goodTail : List Int → Bool
  | [] => true
  | k :: r => decide (0 < negs (k :: r)) && goodTail r
theorem readRun_step {n : Nat} {os ws : List Int} {closed x : Int} {m : Nat} (hc : closed < 5) (hv : vint os = some (x, m)) : readRun (n + 1) os ws closed = if (x.fmod 64 == 40) = true then readRun n (os.drop m) (ws ++ [x.fdiv 64]) closed else readRun n (os.drop m) ws (closed + 1) := by
  rw [readRun, if_pos hc, hv]
theorem read_row {figs : List Int} (hf : Figs figs) : ∀ (r : List Int) (n : Nat) (ws : List Int) (closed : Int), goodTail r = true → closed + negs r = 5 → r.length ≤ n → (∀ k ∈ r, k < 5) → readRun n (octL (bareL figs r)) ws closed = some (ws ++ (ksOf r).map (worthOf figs))
  | [], n, ws, closed, _, hc, _, _ => by
    have : ¬ closed < 5 := by simp [negs] at hc; omega
    cases n with
    | zero => rw [readRun, if_neg this]; simp [ksOf]
    | succ n => rw [readRun, if_neg this]; simp [ksOf]
  | k :: r, n, ws, closed, hg, hc, hn, h5 => by
    simp only [goodTail, Bool.and_eq_true, decide_eq_true_eq] at hg
    have hcl : closed < 5 := by omega
    obtain ⟨n, rfl⟩ : ∃ m, n = m + 1 := ⟨n - 1, by simp at hn; omega⟩
    have hn' : r.length ≤ n := by simp at hn; omega
    have h5' : ∀ k' ∈ r, k' < 5 := fun k' h' => h5 k' (List.mem_cons_of_mem _ h')
    have hk5 := h5 k List.mem_cons_self
    by_cases h0 : 0 ≤ k
    · have hb := fig_b hf h0 hk5
      have e : octL (bareL figs (k :: r)) = (64 + (((⟨(gi figs k).toNat, tn_lt hb.1 hb.2⟩ : Fin 64)).1 : Int)) :: (65 + (((⟨k.toNat, tn_lt h0 hk5⟩ : Fin 5)).1 : Int)) :: 40 :: octL (bareL figs r) := by
        rw [bare_cons]
        unfold pc octL
        rw [if_pos h0]
        simp only [List.cons_append, List.nil_append, List.map_cons]
        congr 1
        · omega
        · congr 1
          omega
      have hv := vint_three ⟨(gi figs k).toNat, tn_lt hb.1 hb.2⟩ ⟨k.toNat, tn_lt h0 hk5⟩ (octL (bareL figs r))
      have hx : (64 * (64 * (((gi figs k).toNat : Nat) : Int) + ((k.toNat : Nat) : Int) + 1) + 40 : Int) = 64 * worthOf figs k + 40 := by rw [Int.toNat_of_nonneg hb.1, Int.toNat_of_nonneg h0]; rfl
      rw [e, readRun_step hcl hv]
      simp only [hx]
      have hm : ((64 * worthOf figs k + 40).fmod 64 == 40) = true := by
        rw [Int.fmod_eq_emod_of_nonneg _ (by decide)]
        simp
      have hdv : (64 * worthOf figs k + 40).fdiv 64 = worthOf figs k := by
        rw [Int.fdiv_eq_ediv_of_nonneg _ (by decide), Int.add_comm, Int.add_mul_ediv_left _ _ (by decide)]
        exact Int.zero_add _
      rw [if_pos hm, hdv]
      have hneg : negs (k :: r) = negs r := by
        unfold negs
        rw [List.filter_cons_of_neg (by simp; omega)]
      have := read_row hf r n (ws ++ [worthOf figs k]) closed hg.2 (by rw [← hneg]; exact hc) hn' h5'
      show readRun n (octL (bareL figs r)) _ _ = _
      rw [this]
      unfold ksOf
      rw [List.filter_cons_of_pos (by simpa using h0)]
      simp
    · have e : octL (bareL figs (k :: r)) = 41 :: octL (bareL figs r) := by
        rw [bare_cons]
        unfold pc octL
        rw [if_neg h0]
        rfl
      have hneg : negs (k :: r) = negs r + 1 := by
        unfold negs
        rw [List.filter_cons_of_pos (by simp; omega)]; rfl
      rw [e, readRun_step hcl (vint_close _), if_neg (by decide)]
      have := read_row hf r n ws (closed + 1) hg.2 (by omega) hn' h5'
      show readRun n (octL (bareL figs r)) _ _ = _
      rw [this]
      unfold ksOf
      rw [List.filter_cons_of_neg (by simpa using h0)]
end Mine
end

section
set_option maxRecDepth 100000
namespace Mine

noncomputable def rowS (cs : Nat → Nat) : Nat → List Int
  | 0 => [0, -1]
  | k + 1 => (rowS cs k).take (1 + cs k) ++ [1 + (k : Int), -1] ++ (rowS cs k).drop (1 + cs k)
noncomputable def rowOf (c0 c1 c2 c3 : Nat) : List Int := rowS (fun k => [c0, c1, c2, c3].getD k 0) 4
theorem rowAt_S (ns : List Int) : ∀ k, k ≤ 4 → rowAt ns k = rowS (fun k => ((gi ns k).fmod (gi menu k)).toNat) k
  | 0, _ => rfl
  | k + 1, h => by
    have hm := menu_pos k h
    have h0 := Int.fmod_nonneg_of_pos (gi ns k) (b := gi menu k) hm.1
    rw [rowAt, rowS, rowAt_S ns k (Nat.le_of_lt h), show (1 + (gi ns k).fmod (gi menu k)).toNat = 1 + ((gi ns k).fmod (gi menu k)).toNat from Int.toNat_add (by decide) h0]
theorem rowAt_of (ns : List Int) : rowAt ns 4 = rowOf ((gi ns 0).fmod 1).toNat ((gi ns 1).fmod 3).toNat ((gi ns 2).fmod 5).toNat ((gi ns 3).fmod 8).toNat := by
  rw [rowAt_S ns 4 (Nat.le_refl _)]
  rfl
noncomputable def dueShape : List Int → List Int → Bool
  | [], _ => true
  | k :: r, st => if k < 0 then decide (st ≠ []) && dueShape r st.dropLast else
      decide (k < 5) && (match st.getLast? with
      | some p => decide (0 ≤ p ∧ p < 5 ∧ p ≠ k) && dueShape r (st ++ [k])
      | none => decide (0 < k) || dueShape r (st ++ [k]))
noncomputable def rowCheck (row : List Int) : Bool :=
  decide (∀ k ∈ row, k < 5) && decide (∀ p ∈ ([0, 1, 2, 3, 4] : List Int), row.count p ≤ 1) && goodTail row && decide (negs row = 5) && decide ((ksOf row).length = 5) && decide ((ksOf row).Nodup) && decide (∀ k ∈ ksOf row, 0 ≤ k ∧ k < 5) &&
  decide ((outersRow row).length = 5) && decide (∀ i ∈ ([0, 1, 2, 3, 4] : List Int), -1 ≤ gi (outersRow row) i ∧ gi (outersRow row) i < i) && decide (∀ x ∈ outersRow row, -1 ≤ x ∧ x < 5) &&
  decide (dueList row [] = if looseIn (outersRow row) = true then none else some (edgesOf (ksOf row) (outersRow row))) && (looseIn (outersRow row) || decide ((((edgesOf (ksOf row) (outersRow row)).map fun p => (p.1.toNat, p.2.toNat)).map nrm).Nodup)) && dueShape row []
theorem rows_checked : ∀ c1 : Fin 3, ∀ c2 : Fin 5, ∀ c3 : Fin 8, rowCheck (rowOf 0 c1.1 c2.1 c3.1) = true := by decide +kernel
end Mine
end

section
set_option maxRecDepth 100000
namespace Mine
open PySem.StrLaws PySem.Builtin PySem.Builtin.Str

structure RowOk (row : List Int) : Prop where
  lt : ∀ k ∈ row, k < 5
  cnt : ∀ p : Int, 0 ≤ p → p < 5 → row.count p ≤ 1
  good : goodTail row = true
  ng : negs row = 5
  obd : ∀ x ∈ outersRow row, -1 ≤ x ∧ x < 5
  facts : RowFacts row (ksOf row) (outersRow row)
  due : dueShape row [] = true
theorem row_all {row : List Int} (h : rowCheck row = true) : RowOk row := by
  simp only [rowCheck, Bool.and_eq_true, decide_eq_true_eq, Bool.or_eq_true] at h
  obtain ⟨⟨⟨⟨⟨⟨⟨⟨⟨⟨⟨⟨h1, h2⟩, h3⟩, h4⟩, h5⟩, h6⟩, h7⟩, h8⟩, h9⟩, h10⟩, h11⟩, h12⟩, h13⟩ := h
  refine ⟨h1, fun p hp0 hp5 => h2 p ?_, h3, h4, h10, ⟨h5, h6, h7, h8, h9, h11, fun hl => ?_⟩, h13⟩
  · have := five (P := fun i : Nat => (i : Int) ∈ ([0, 1, 2, 3, 4] : List Int)) (by decide) (by decide) (by decide) (by decide) (by decide) p.toNat (tn_lt hp0 hp5)
    rwa [Int.toNat_of_nonneg hp0] at this
  · rcases h12 with h | h
    · rw [hl] at h; cases h
    · exact h
theorem rowAt_ok (ns : List Int) : RowOk (rowAt ns 4) := by
  rw [rowAt_of]
  have a0 := Int.fmod_nonneg_of_pos (gi ns 0) (b := 1) (by decide)
  have b0 := Int.fmod_lt_of_pos (gi ns 0) (b := 1) (by decide)
  have a1 := Int.fmod_nonneg_of_pos (gi ns 1) (b := 3) (by decide)
  have b1 := Int.fmod_lt_of_pos (gi ns 1) (b := 3) (by decide)
  have a2 := Int.fmod_nonneg_of_pos (gi ns 2) (b := 5) (by decide)
  have b2 := Int.fmod_lt_of_pos (gi ns 2) (b := 5) (by decide)
  have a3 := Int.fmod_nonneg_of_pos (gi ns 3) (b := 8) (by decide)
  have b3 := Int.fmod_lt_of_pos (gi ns 3) (b := 8) (by decide)
  have e0 : ((gi ns 0).fmod 1).toNat = 0 := by omega
  rw [e0]
  exact row_all (rows_checked ⟨((gi ns 1).fmod 3).toNat, by omega⟩ ⟨((gi ns 2).fmod 5).toNat, by omega⟩ ⟨((gi ns 3).fmod 8).toNat, by omega⟩)
theorem due_good {laid figs : List Int} (hd : ∀ i j : Nat, i < 5 → j < 5 → i ≠ j → gi laid i ≠ gi laid j) : ∀ (row st : List Int), dueShape row st = true → dueGood laid figs row st
  | [], st, _ => trivial
  | k :: r, st, h => by
    unfold dueShape at h
    unfold dueGood
    split
    · rename_i hk
      rw [if_pos hk] at h
      simp only [Bool.and_eq_true, decide_eq_true_eq] at h
      exact ⟨h.1, due_good hd r _ h.2⟩
    · rename_i hk
      rw [if_neg hk] at h
      simp only [Bool.and_eq_true, decide_eq_true_eq] at h
      refine ⟨h.1, ?_⟩
      have h2 := h.2
      cases hst : st.getLast? with
      | some p =>
        rw [hst] at h2
        dsimp only at h2 ⊢
        simp only [Bool.and_eq_true, decide_eq_true_eq] at h2
        obtain ⟨⟨p0, p5, pk⟩, hr⟩ := h2
        have k0 : 0 ≤ k := Int.not_lt.mp hk
        have hne := hd p.toNat k.toNat (tn_lt p0 p5) (tn_lt k0 h.1) (fun e => pk ((Int.toNat_of_nonneg p0).symm.trans ((congrArg Int.ofNat e).trans (Int.toNat_of_nonneg k0))))
        rw [Int.toNat_of_nonneg p0, Int.toNat_of_nonneg k0] at hne
        refine ⟨p0, p5, ?_, due_good hd r _ hr⟩
        have hne' := fun e => hne (Int.sub_eq_zero.mp e)
        unfold gapOf
        split
        · exact hne'
        · exact fun e => hne' (Int.neg_eq_zero.mp e)
      | none =>
        rw [hst] at h2
        dsimp only at h2 ⊢
        simp only [Bool.or_eq_true, decide_eq_true_eq] at h2
        rcases h2 with h2 | h2
        · exact .inl h2
        · exact .inr (due_good hd r _ h2)
theorem numbers_len (s : List Int) : (numbersOf s).length = 5 := by
  unfold numbersOf
  simp only [List.length_append, List.length_map, List.length_drop, List.length_take, List.length_cons, List.length_nil]
  omega
theorem orders_len (names : List PySem.Str) (outers worths : List Int) : (ordersAt names outers worths 4).length ≤ 1000 := by
  have step : ∀ n, (ordersAt names outers worths (n + 1)).length ≤ (n + 2) * (ordersAt names outers worths n).length := fun n => by
    rw [ordersAt]
    exact flatMap_len (fun o => growB_len names outers worths (n + 1) o (n + 2)) _
  have h0 : (ordersAt names outers worths 0).length = 1 := rfl
  have h1 := step 0
  have h2 := step 1
  have h3 := step 2
  have h4 := step 3
  simp only [Nat.zero_add, Nat.reduceAdd] at h1 h2 h3 h4
  omega
theorem laid_get {figs : List Int} (k : Int) (h0 : 0 ≤ k) (h5 : k < 5) : gi (laidOf figs) k = worthOf figs k := by
  obtain ⟨n, rfl⟩ : ∃ n : Nat, k = n := ⟨k.toNat, by omega⟩
  have hn : n < 5 := by omega
  unfold laidOf worthOf gi
  simp [hn]
theorem worth_split {figs : List Int} (hf : Figs figs) {k : Int} (h0 : 0 ≤ k) (h5 : k < 5) : (worthOf figs k).fdiv 64 = gi figs k ∧ (worthOf figs k).fmod 64 = k + 1 ∧ 0 ≤ worthOf figs k ∧ worthOf figs k < 5000 := by
  have hb := fig_b hf h0 h5
  rw [Int.fdiv_eq_ediv_of_nonneg _ (by decide), Int.fmod_eq_emod_of_nonneg _ (by decide)]
  have e : worthOf figs k = (k + 1) + 64 * gi figs k := by unfold worthOf; omega
  have k0 : 0 ≤ k + 1 := Int.le_trans h0 (Int.le_add_of_nonneg_right (by decide))
  have k6 : k + 1 < 64 := Int.lt_trans (Int.add_lt_add_right h5 1) (by decide)
  rw [e, Int.add_mul_ediv_left _ _ (by decide), Int.ediv_eq_zero_of_lt k0 k6, Int.add_mul_emod_self_left, Int.emod_eq_of_lt k0 k6]
  clear e
  exact ⟨Int.zero_add _, rfl, by omega, by omega⟩
theorem gi_map {f : Int → Int} {ks : List Int} {m : Nat} (h : m < ks.length) : gi (ks.map f) (m : Nat) = f (gi ks (m : Nat)) := by
  simp [gi, h]

theorem law_facts (ns : List Int) (hl : ns.length = 5) : LawOk ns ((ksOf (rowAt ns 4)).map (worthOf (figuresOf ns))) 10 := by
  have K := rowAt_ok ns
  have F := K.facts
  have hf : Figs (figuresOf ns) := ⟨figures_len ns, figures_bound ns⟩
  have hrl := rowAt_len ns 4
  have hsh := shift_bound ns
  have hp0 := pOf_nonneg (gi ns 4)
  have hp5 : pOf (gi ns 4) < 5 := Int.fmod_lt_of_pos _ (by decide)
  have hcnt := K.cnt _ hp0 hp5
  have hdr := dr_ok (gi ns 4)
  have hline : (lineAll ns).cps.toList = dressL (figuresOf ns) (drOf (gi ns 4)) (pOf (gi ns 4)) (rowAt ns 4) := join_texts (rowAt ns 4)
  have T := line_ok hf hdr hline hcnt K.lt (by omega)
  have hks := F.kb
  have hw : ∀ w ∈ (ksOf (rowAt ns 4)).map (worthOf (figuresOf ns)), ∃ k ∈ ksOf (rowAt ns 4), w = worthOf (figuresOf ns) k := fun w h => by
    obtain ⟨k, hk, rfl⟩ := List.mem_map.mp h
    exact ⟨k, hk, rfl⟩
  have hnames : ((ksOf (rowAt ns 4)).map (worthOf (figuresOf ns))).map (nameOf (shiftOf ns)) = (ksOf (rowAt ns 4)).map (wantOf (shiftOf ns)) := by
    rw [List.map_map]
    refine List.map_congr_left fun k hk => ?_
    have hb := hks k hk
    obtain ⟨_, h2, _⟩ := worth_split hf hb.1 hb.2
    show nameOf (shiftOf ns) (worthOf (figuresOf ns) k) = wantOf (shiftOf ns) k
    unfold nameOf wantOf
    rw [h2, listed_all12 _ (by omega), show (((k + 1 + shiftOf ns - 1).toNat : Nat) : Int) = k + shiftOf ns by omega]
  have hout : outersOf (textsOf ns) = outersRow (rowAt ns 4) := by
    have := outRun_row hf K.lt hcnt hline (rowAt ns 4) 0 [] [] rfl (fun i hi => nomatch hi) (Nat.zero_le _)
    exact this
  have hd : ∀ i j : Nat, i < 5 → j < 5 → i ≠ j → gi (laidOf (figuresOf ns)) i ≠ gi (laidOf (figuresOf ns)) j := fun i j hi hj hij => by
    rw [laid_get _ (by omega) (by omega), laid_get _ (by omega) (by omega)]
    have h1 := fig_b hf (k := (i : Int)) (by omega) (by omega)
    have h2 := fig_b hf (k := (j : Int)) (by omega) (by omega)
    unfold worthOf
    omega
  have hkb : ∀ i : Nat, i < 5 → 0 ≤ gi (ksOf (rowAt ns 4)) i ∧ gi (ksOf (rowAt ns 4)) i < 5 := fun i hi => ks_bound F i hi
  have hgw : ∀ i : Nat, i < 5 → gi ((ksOf (rowAt ns 4)).map (worthOf (figuresOf ns))) i = worthOf (figuresOf ns) (gi (ksOf (rowAt ns 4)) i) := fun i hi => gi_map (by rw [F.klen]; exact hi)
  have hws : ∀ i : Nat, i < 5 → gi ((ksOf (rowAt ns 4)).map (worthOf (figuresOf ns))) i = gi (laidOf (figuresOf ns)) (gi (ksOf (rowAt ns 4)) i) := fun i hi => by
    rw [hgw i hi, laid_get _ (hkb i hi).1 (hkb i hi).2]
  have hodd : ∀ i : Nat, i < 5 → oddAt ((ksOf (rowAt ns 4)).map (worthOf (figuresOf ns))) i = !((gi (figuresOf ns) (gi (ksOf (rowAt ns 4)) i)).fmod 2 == 0) := fun i hi => by
    unfold oddAt
    rw [hgw i hi, (worth_split hf (hkb i hi).1 (hkb i hi).2).1]
    have h1 := Int.fmod_nonneg_of_pos (gi (figuresOf ns) (gi (ksOf (rowAt ns 4)) i)) (b := 2) (by decide)
    have h2 := Int.fmod_lt_of_pos (gi (figuresOf ns) (gi (ksOf (rowAt ns 4)) i)) (b := 2) (by decide)
    generalize (gi (figuresOf ns) (gi (ksOf (rowAt ns 4)) i)).fmod 2 = z at h1 h2
    have : z = 0 ∨ z = 1 := by omega
    rcases this with rfl | rfl <;> rfl
  have hob : ∀ i : Nat, i < 5 → -1 ≤ gi (outersRow (rowAt ns 4)) i ∧ gi (outersRow (rowAt ns 4)) i < i := fun i hi => F.ob i (five (P := fun i : Nat => (i : Int) ∈ ([0, 1, 2, 3, 4] : List Int)) (by decide) (by decide) (by decide) (by decide) (by decide) i hi)
  have hkeep : ∀ (n : Nat), n < 4 → ∀ g, OrdShape (n + 1) g → 0 ≤ gi (outersRow (rowAt ns 4)) (n + 1 : Nat) →
      keepB (((ksOf (rowAt ns 4)).map (worthOf (figuresOf ns))).map (nameOf (shiftOf ns))) (outersRow (rowAt ns 4)) ((ksOf (rowAt ns 4)).map (worthOf (figuresOf ns))) (n + 1) g =
        if oddAt ((ksOf (rowAt ns 4)).map (worthOf (figuresOf ns))) (n + 1) = true then before (n + 1) (gi (outersRow (rowAt ns 4)) (n + 1 : Nat)).toNat g else before (gi (outersRow (rowAt ns 4)) (n + 1 : Nat)).toNat (n + 1) g := fun n hn g S h0 => by
    rw [hnames]
    have hb := hob (n + 1) (by omega)
    have h5 : ∀ m ∈ g, m < 5 := fun m hm => by have := (S.mem m).mp hm; omega
    exact keep_before (fun m hm => names_framed F.klen F.kb hsh (h5 m hm)) (fun m hm m' hm' e => names_inj F.klen F.kn F.kb hsh (h5 m hm) (h5 m' hm') e) S.nd ((S.mem _).mpr (Nat.le_refl _)) h0 ((S.mem _).mpr (by omega)) (by omega)
  refine ⟨hl, K.lt, T.len, T.fin, T.len', by decide, ?_, by rw [List.length_map]; exact F.klen, ?_, ?_, ?_, ?_, ?_, ?_, ?_, ?_, ?_, ?_, ?_, ?_⟩
  · have e : octsOf (stripOf (lineAll ns)) = octL (bareL (figuresOf ns) (rowAt ns 4)) := by
      unfold octsOf octL
      rw [strip_line hf hdr hline hcnt K.lt]
    rw [e, read_row hf (rowAt ns 4) 10 [] 0 K.good (by rw [K.ng]; rfl) (by omega) K.lt]
    rfl
  · intro w h
    obtain ⟨k, hk, rfl⟩ := hw w h
    exact (worth_split hf (hks k hk).1 (hks k hk).2).2.2
  · intro w h
    obtain ⟨k, hk, rfl⟩ := hw w h
    have hb := hks k hk
    rw [(worth_split hf hb.1 hb.2).2.1]
    omega
  · exact hnames
  · intro w h
    obtain ⟨k, hk, rfl⟩ := List.mem_map.mp h
    have hk5 : k < 5 := by simpa using hk
    have := (worth_split hf (k := (k : Int)) (by omega) (by omega)).2.2
    exact this
  · intro i m him hm
    have hm' : m ≤ (rowAt ns 4).length := by unfold textsOf at hm; rw [List.length_map] at hm; exact hm
    refine line_ok hf hdr (sub_cps hline him hm') (sub_count hp0 hcnt _ _) (sub_lt K.lt _ _) ?_
    unfold subl
    rw [List.length_append, List.length_take, List.length_drop]
    simp
    omega
  · rw [hout]; exact F.olen
  · rw [hout]; exact K.obd
  · rw [hnames]; exact names_ok F.klen F.kb hsh
  · exact orders_len _ _ _
  · intro o ho
    rw [hout] at ho
    have S := ordShape _ _ _ 4 o ho
    refine ⟨S.len, fun n hn => by have := (S.mem n).mp hn; omega, ?_⟩
    rw [part_chain F hws S]
    exact prodD_ne _ hd _ (chain_facts F S).2
  · exact due_good hd _ _ K.due
  · rw [hout]
    exact greene F hd hws hodd hkeep
theorem plain (script : List Int) : ∃ ws N, LawOk (numbersOf script) ws N := ⟨_, _, law_facts _ (numbers_len script)⟩
end Mine
end

section
set_option maxRecDepth 100000
set_option maxHeartbeats 8000000
namespace Mine
theorem rds_ints {h : Heap} : ∀ {vs : List Value} {xs : List Int}, IntsAre vs xs → RDs h [] (xs.map .int) vs
  | _, _, .nil => RDs.nil
  | _, _, .cons n t r => RDs.cons rd_int (rds_ints r)
theorem holds_of (plain : ∀ script : List Int, script.length ≤ 63 → ∃ ws N, LawOk (numbersOf script) ws N) : PySem.Challenge.rw_sc0039_01.Holds := by
  refine hd ?_
  k_fill
  intro w s0 s1 mg mb G Y fa o pm cd doc dV kV ho hd' hcd hD hmg hg args vals as hpre hlay hrd hwl hlo
  have KX := kIn_of Y
  clear hD hd' hcd
  have T := G.T
  clear G Y
  wrow_args hpre hlay hrd hwl hlo
  rename_i xs q1 q2 q3 q4 q5 z1 z2 l its z3 hL ra w1 r0 hI hr hc1 hc2
  have hfa : fa = 124 := by
    have e1 : mg "law" = some (.ref 124) := mg_of KX T.g rfl
    have e2 : mg "law" = some (.ref fa) := hmg
    rw [e1] at e2
    exact (Value.ref.inj (Option.some.inj e2)).symm
  subst hfa
  have hlen : xs.length ≤ 63 := by omega
  obtain ⟨ws, N, O⟩ := plain xs hlen
  refine (law_ok ⟨_, w, hd.heap_39 w.params, mg, mb⟩ rfl xs ws N (by omega) O).run callerA s1 _ _ _ ⟨rfl, by decide, by decide⟩ ⟨T.g, T.b, T.nolimit, KX, T.builtins⟩ (RDs.cons (rd_list List.not_mem_nil hL (rds_ints hI)) RDs.nil) fun v s' x r => ?_
  have hv : v = .bool true := by unfold RD at r; exact r
  subst hv
  obtain ⟨gl, hgl, hbare⟩ := x.gens
  refine ⟨.inl ⟨_, .bool true, [], rfl, fun cls => rfl, .bool true, (by wrow_post), fun _ => ⟨List.nodup_nil, fun a ha => nomatch ha⟩⟩, .of_keep x.keep, x.os, fun y hy => ?_⟩
  rw [hgl, hg] at hy
  exact hbare y (by simpa using hy)
end Mine
end

set_option maxRecDepth 100000 in
set_option maxHeartbeats 8000000 in
theorem PySem.Challenge.cw_sc0039_01_holds : PySem.Challenge.rw_sc0039_01.Holds := by
  exact Mine.holds_of fun script h => Mine.plain script
