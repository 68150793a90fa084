import PyProof.Rows.All
import Wide.All
import OpenK.AllK
import Wide.FinOn
import PySem.Challenge.RW_pg0277_01
set_option Elab.async false
set_option maxRecDepth 100000

lay_quick PySem.Challenge.pw_pg0277_01
namespace Mine
open PySem PySem.W PySem.W.X PySem.Calls PyProof.Rows PySem.W.Fast
theorem hlQ {q : Program} {loose : List Str} {Xt : Shared → Bool} {α : Type} {Yf : Shared → α} {Ya : World → α} {N : Nat} {g0 : Bool}
    (h : ∀ w : World, (((tw10274390034422433532 tw14364793385576792824 (opening tw6530002578493515829) w N (tw1435165496053646825 (opening tw6530002578493515829)).1 (tw1435165496053646825 (opening tw6530002578493515829)).2).bind (tw14289696077712309145 tw6530002578493515829)).bind fun s₀ =>
      match s₀.heap.isNs mainGlobals && s₀.gens.size == 0 with
      | true => (tw14082659384304107361 tw14364793385576792824 tw6530002578493515829 w s₀.heap.objs.size (tw8920871248978507458 s₀.heap mainGlobals "__annotations__") N s₀ (topStub tw6530002578493515829)).bind fun s₁ =>
        match staticsOk (tw5923862056798008813 (tw6530002578493515829).main.body) s₀.heap s₁.heap && namesBound tw6530002578493515829 s₁.heap && gensDone s₁ && laidKept s₀.heap s₁.heap with
        | true => some s₁
        | false => none
      | false => none).map (fun s => (tw4187177175401517315 q loose (tw5923862056798008813 (tw6530002578493515829).main.body) Xt g0 s, Yf s)) = some (openGood q loose, Ya w)) : LeftO PySem.Challenge.pw_pg0277_01 q loose Xt Yf Ya N g0 := by
  intro w
  have k := h w
  rw [← te10274390034422433532, ← te14364793385576792824, ← te6530002578493515829, ← te1435165496053646825, ← te14289696077712309145, ← te14082659384304107361, ← te8920871248978507458, ← te5923862056798008813, ← te4187177175401517315] at k
  unfold openEnds fencedOpening topFrom
  exact k
end Mine
namespace Mine
open PySem PySem.W PySem.W.X PySem.W.ZRun PyProof.Rows
section
set_option maxHeartbeats 0
local macro_rules | `(tactic| k_head) => `(tactic| z_head)
local macro_rules
  | `(tactic| refine $f:ident (q := $q) (loose := $l) (Xt := $x) (XP := $p) (Yf := $y) (Ya := $a) (N := $n) ?hl $r*) => `(tactic| refine $f:ident (q := $q) (loose := $l) (Xt := $x) (XP := $p) (Yf := $y) (Ya := $a) (N := $n) (by exact hlQ (by intro w; kernel_rfl)) $r*)
open_top hdz for PySem.Challenge.rw_pg0277_01
end
set_option maxHeartbeats 4000000 in
/-- the claim, once the call is shown to give True -/
theorem hdzN (H : ∀ (w : World) (s : Shared) (its : List Value) (zs : List Int) (R : Result → Shared → Prop), KT.Holds s.heap 1 0 (hdz.ktop_568 w.params) → s.heap.get? 288 = some { cls := .type "list", data := .seq its.toArray } → IntsAre its zs → zs.length ≤ 63 →
    (∀ h tk, OldK s.heap h → R (.ok (.ret (.bool true))) ⟨h, s.gens, s.drawn, tk, s.os⟩) → codeAny (model PySem.Challenge.pw_pg0277_01 w) callerA (.call (.ref 287) ⟨[.ref 288], []⟩) R s) : PySem.Challenge.rw_pg0277_01.Holds := hdz (by
  k_fill
  intro w s₀ s₁ mg mb G y fa o pm cd doc dV kV ho hd hcd hD hmg hg args vals as L hpre hlay hrd hwl hlo
  z_open y L KX ZH ZN ZT
  refine Ground.open G ?_
  intro T B D TE TW
  wrow_args hpre hlay hrd hwl hlo
  obtain ⟨hat, hsz⟩ := script_at L
  have htk := script_toks L ZT
  rw [ZN] at hat hsz
  subst hat
  x_fa T KX hmg
  all_lens
  rename_i hL w1 r0 hi hb
  refine wpAny_call (H w s₁ _ _ _ ZH (script_obj L hL) hi (by omega) fun h tk hk => ?_)
  exact ⟨.inl ⟨_, _, [], rfl, fun _ => rfl, ReadsW.bool true, (by first | rfl | wrow_post), fun _ => ⟨List.nodup_nil, fun _ hm => (nomatch hm)⟩⟩, hk, rfl, by show AllBare s₁.gens; rw [hg]; exact AllBare.empty⟩)
end Mine

namespace Mine
open PySem PySem.Spec PySem.Calls PyProof.Rows PySem.W PySem.W.X

inductive TT (α : Type) where
  | nil
  | node (v : α) (l r : TT α)
namespace TT
variable {α : Type}
noncomputable def get : TT α → Nat → Option α
  | .nil, _ => none
  | .node v l r, i => match Nat.beq i 0 with
    | true => some v
    | false => match Nat.beq (i % 2) 1 with
      | true => l.get (i / 2)
      | false => r.get (i / 2 - 1)
noncomputable def set : TT α → Nat → α → TT α
  | .nil, _, _ => .nil
  | .node v l r, i, x => match Nat.beq i 0 with
    | true => .node x l r
    | false => match Nat.beq (i % 2) 1 with
      | true => .node v (l.set (i / 2) x) r
      | false => .node v l (r.set (i / 2 - 1) x)
noncomputable def ins : TT α → Nat → α → TT α
  | .nil, _, o => .node o .nil .nil
  | .node v l r, i, o => match Nat.beq i 0 with
    | true => .node o l r
    | false => match Nat.beq (i % 2) 1 with
      | true => .node v (l.ins (i / 2) o) r
      | false => .node v l (r.ins (i / 2 - 1) o)
theorem beq_eq (a b : Nat) : Nat.beq a b = decide (a = b) := BT.beq_eq a b
theorem get_node (v : α) (l r : TT α) (i : Nat) : (node v l r).get i = if i = 0 then some v else if i % 2 = 1 then l.get (i / 2) else r.get (i / 2 - 1) := by
  show (match Nat.beq i 0 with | true => some v | false => match Nat.beq (i % 2) 1 with | true => l.get (i / 2) | false => r.get (i / 2 - 1)) = _
  rw [beq_eq, beq_eq]
  by_cases h : i = 0
  · simp [h]
  · by_cases q : i % 2 = 1 <;> simp [h, q]
theorem set_node (v : α) (l r : TT α) (i : Nat) (x : α) : (node v l r).set i x = if i = 0 then node x l r else if i % 2 = 1 then node v (l.set (i / 2) x) r else node v l (r.set (i / 2 - 1) x) := by
  show (match Nat.beq i 0 with | true => node x l r | false => match Nat.beq (i % 2) 1 with | true => node v (l.set (i / 2) x) r | false => node v l (r.set (i / 2 - 1) x)) = _
  rw [beq_eq, beq_eq]
  by_cases h : i = 0
  · simp [h]
  · by_cases q : i % 2 = 1 <;> simp [h, q]
theorem ins_node (v : α) (l r : TT α) (i : Nat) (o : α) : (node v l r).ins i o = if i = 0 then node o l r else if i % 2 = 1 then node v (l.ins (i / 2) o) r else node v l (r.ins (i / 2 - 1) o) := by
  show (match Nat.beq i 0 with | true => node o l r | false => match Nat.beq (i % 2) 1 with | true => node v (l.ins (i / 2) o) r | false => node v l (r.ins (i / 2 - 1) o)) = _
  rw [beq_eq, beq_eq]
  by_cases h : i = 0
  · simp [h]
  · by_cases q : i % 2 = 1 <;> simp [h, q]
theorem get_set (x : α) : ∀ (t : TT α) (a i : Nat), (t.set a x).get i = if i = a then (t.get a).map (fun _ => x) else t.get i
  | .nil, a, i => by show (TT.nil.get i) = _; simp [get]
  | .node v l r, a, i => by
    rw [set_node, get_node v l r a, get_node v l r i]
    by_cases ha : a = 0
    · subst ha
      rw [if_pos rfl, get_node]
      by_cases hi : i = 0
      · simp [hi]
      · simp [hi]
    · rw [if_neg ha]
      by_cases pa : a % 2 = 1
      · rw [if_pos pa, get_node]
        by_cases hi : i = 0
        · have : i ≠ a := by omega
          simp [hi, Ne.symm ha]
        · by_cases pi : i % 2 = 1
          · simp only [hi, pi, ha, pa, if_true, if_false, get_set x l]
            by_cases e : i = a
            · simp [e]
            · have : i / 2 ≠ a / 2 := by omega
              simp [e, this]
          · have : i ≠ a := fun q => pi (q ▸ pa)
            simp [hi, pi, this]
      · rw [if_neg pa, get_node]
        by_cases hi : i = 0
        · simp [hi, Ne.symm ha]
        · by_cases pi : i % 2 = 1
          · have : i ≠ a := fun q => pa (q ▸ pi)
            simp [hi, pi, this]
          · simp only [hi, pi, ha, pa, if_false, get_set x r]
            by_cases e : i = a
            · simp [e]
            · have : i / 2 - 1 ≠ a / 2 - 1 := by omega
              simp [e, this]
theorem get_ins (o : α) : ∀ (t : TT α) (a : Nat), ((t.ins a o).get a).isSome = true → ∀ i, (t.ins a o).get i = if i = a then some o else t.get i
  | .nil, a, h, i => by
    have e : (TT.nil.ins a o) = node o nil nil := rfl
    rw [e, get_node] at h
    have ha : a = 0 := by
      by_cases q : a = 0
      · exact q
      · exfalso; revert h; by_cases p : a % 2 = 1 <;> simp [q, p, get]
    subst ha
    rw [e, get_node]
    by_cases hi : i = 0
    · simp [hi]
    · by_cases p : i % 2 = 1 <;> simp [hi, p, get]
  | .node v l r, a, h, i => by
    rw [ins_node] at h ⊢
    rw [get_node v l r i]
    by_cases ha : a = 0
    · subst ha
      rw [if_pos rfl, get_node]
      by_cases hi : i = 0 <;> simp [hi]
    · rw [if_neg ha] at h ⊢
      by_cases pa : a % 2 = 1
      · rw [if_pos pa] at h ⊢
        rw [get_node, if_neg ha, if_pos pa] at h
        rw [get_node]
        by_cases hi : i = 0
        · simp [hi, Ne.symm ha]
        · by_cases pi : i % 2 = 1
          · simp only [hi, pi, if_true, if_false, get_ins o l _ h]
            by_cases e : i = a
            · simp [e]
            · have : i / 2 ≠ a / 2 := by omega
              simp [e, this]
          · have : i ≠ a := fun q => pi (q ▸ pa)
            simp [hi, pi, this]
      · rw [if_neg pa] at h ⊢
        rw [get_node, if_neg ha, if_neg pa] at h
        rw [get_node]
        by_cases hi : i = 0
        · simp [hi, Ne.symm ha]
        · by_cases pi : i % 2 = 1
          · have : i ≠ a := fun q => pa (q ▸ pi)
            simp [hi, pi, this]
          · simp only [hi, pi, if_false, get_ins o r _ h]
            by_cases e : i = a
            · simp [e]
            · have : i / 2 - 1 ≠ a / 2 - 1 := by omega
              simp [e, this]
end TT
noncomputable abbrev LT := TT (Addr × Obj)

/-- what is known of the heap: the written old objects, the ledger, and what stood before -/
structure Rep (kt : Addr → Obj → Prop) (pre : List Addr) (h₀ h : Heap) (T : LT) (N : Nat) : Prop where
  size : h.objs.size = N
  old : ∀ b o, kt b o → h.get? b = some o
  own : ∀ i a o, T.get i = some (a, o) → h.get? a = some o ∧ ∀ o', ¬ kt a o'
  inj : ∀ i j a o o', T.get i = some (a, o) → T.get j = some (a, o') → i = j
  keep : ∀ b o, h₀.get? b = some o → b ∉ pre → h.get? b = some o
  mine : ∀ i a o, T.get i = some (a, o) → a ∈ pre ∨ h₀.get? a = none
  cov : ∀ a ∈ pre, ∃ i o, T.get i = some (a, o)
section
variable {kt : Addr → Obj → Prop} {pre : List Addr} {h₀ h : Heap} {T : LT} {N m : Nat}
theorem Rep.there (D : Rep kt pre h₀ h T N) {b : Addr} {o : Obj} (e : h₀.get? b = some o) : ∃ o', h.get? b = some o' := by
  by_cases q : b ∈ pre
  · obtain ⟨i, o', ei⟩ := D.cov b q
    exact ⟨o', (D.own _ _ _ ei).1⟩
  · exact ⟨o, D.keep b o e q⟩
theorem Rep.alloc (D : Rep kt pre h₀ h T N) {o : Obj} (hf : o.isFreed = false) (hm : T.get m = none) (hg : ((T.ins m (N, o)).get m).isSome = true) : Rep kt pre h₀ (h.push o) (T.ins m (N, o)) (N + 1) := by
  have lt : ∀ i a o, T.get i = some (a, o) → a < N := fun i a o e => D.size ▸ Heap.lt_size (D.own i a o e).1
  have ktn : ∀ o', ¬ kt N o' := fun o' q => absurd (D.size ▸ Heap.lt_size (D.old _ _ q)) (Nat.lt_irrefl _)
  have h0n : h₀.get? N = none := by
    cases q : h₀.get? N with
    | none => rfl
    | some o' =>
      obtain ⟨o2, e2⟩ := D.there q
      exact absurd (D.size ▸ Heap.lt_size e2) (Nat.lt_irrefl _)
  refine ⟨by rw [Heap.size_push, D.size], fun b o' e => Heap.get?_push_of_some _ (D.old b o' e), fun i a o' e => ?_, fun i j a o1 o2 e1 e2 => ?_, fun b o' e q => Heap.get?_push_of_some _ (D.keep b o' e q), fun i a o' e => ?_, fun a ha => ?_⟩
  · rw [TT.get_ins _ T m hg] at e
    by_cases hi : i = m
    · rw [if_pos hi] at e
      cases e
      refine ⟨?_, ktn⟩
      rw [← D.size]; exact Heap.get?_push_size _ hf
    · rw [if_neg hi] at e
      have z := D.own i a o' e
      exact ⟨Heap.get?_push_of_some _ z.1, z.2⟩
  · rw [TT.get_ins _ T m hg] at e1 e2
    by_cases hi : i = m
    · by_cases hj : j = m
      · rw [hi, hj]
      · rw [if_pos hi] at e1
        rw [if_neg hj] at e2
        cases e1
        exact absurd (lt _ _ _ e2) (Nat.lt_irrefl _)
    · rw [if_neg hi] at e1
      by_cases hj : j = m
      · rw [if_pos hj] at e2
        cases e2
        exact absurd (lt _ _ _ e1) (Nat.lt_irrefl _)
      · rw [if_neg hj] at e2
        exact D.inj _ _ _ _ _ e1 e2
  · rw [TT.get_ins _ T m hg] at e
    by_cases hi : i = m
    · rw [if_pos hi] at e
      cases e
      exact .inr h0n
    · rw [if_neg hi] at e
      exact D.mine i a o' e
  · obtain ⟨i, o1, ei⟩ := D.cov a ha
    by_cases hi : i = m
    · rw [hi, hm] at ei; cases ei
    · exact ⟨i, o1, by rw [TT.get_ins _ T m hg, if_neg hi]; exact ei⟩
theorem Rep.set (D : Rep kt pre h₀ h T N) {h' : Heap} {i : Nat} {a : Addr} {o o' : Obj} (e : T.get i = some (a, o)) (hs : Heap.SameBut a h h') (hn : h'.get? a = some o') : Rep kt pre h₀ h' (T.set i (a, o')) N := by
  have z := D.own i a o e
  have ne : ∀ j b ob, T.get j = some (b, ob) → j ≠ i → b ≠ a := fun j b ob ej hj eb => by
    subst eb
    exact hj (D.inj _ _ _ _ _ ej e)
  refine ⟨by rw [hs.1, D.size], fun b ob eb => ?_, fun j b ob ej => ?_, fun j k b o1 o2 e1 e2 => ?_, fun b ob eb q => ?_, fun j b ob ej => ?_, fun b hb => ?_⟩
  · have : b ≠ a := fun q => by subst q; exact z.2 _ eb
    exact (hs.2 b this).trans (D.old b ob eb)
  · rw [TT.get_set] at ej
    by_cases hj : j = i
    · rw [if_pos hj, e] at ej
      cases ej
      exact ⟨hn, z.2⟩
    · rw [if_neg hj] at ej
      have y := D.own j b ob ej
      exact ⟨(hs.2 b (ne j b ob ej hj)).trans y.1, y.2⟩
  · rw [TT.get_set] at e1 e2
    by_cases hj : j = i
    · by_cases hk : k = i
      · rw [hj, hk]
      · rw [if_pos hj, e] at e1
        rw [if_neg hk] at e2
        cases e1
        exact absurd rfl (ne k _ _ e2 hk)
    · rw [if_neg hj] at e1
      by_cases hk : k = i
      · rw [if_pos hk, e] at e2
        cases e2
        exact absurd rfl (ne j _ _ e1 hj)
      · rw [if_neg hk] at e2
        exact D.inj _ _ _ _ _ e1 e2
  · have : b ≠ a := fun x => by
      subst x
      rcases D.mine i b o e with m | m
      · exact q m
      · rw [eb] at m; cases m
    exact (hs.2 b this).trans (D.keep b ob eb q)
  · rw [TT.get_set] at ej
    by_cases hj : j = i
    · rw [if_pos hj, e] at ej
      cases ej
      exact D.mine i _ _ e
    · rw [if_neg hj] at ej
      exact D.mine j b ob ej
  · obtain ⟨j, o1, ej⟩ := D.cov b hb
    by_cases hj : j = i
    · subst hj
      rw [e] at ej
      cases ej
      exact ⟨j, o', by rw [TT.get_set, if_pos rfl, e]; rfl⟩
    · exact ⟨j, o1, by rw [TT.get_set, if_neg hj]; exact ej⟩
end
end Mine

namespace Mine
open PySem PySem.Spec PySem.Calls PyProof.Rows PySem.W PySem.W.X

noncomputable def Full {α : Type} (T : TT α) (m : Nat) : Prop := ∀ i, (T.get i).isSome = true ↔ i < m
theorem Full.none {α : Type} {T : TT α} {m : Nat} (F : Full T m) : T.get m = none := by
  cases q : T.get m with
  | none => rfl
  | some x => exact absurd ((F m).mp (by rw [q]; rfl)) (Nat.lt_irrefl _)
theorem full_ins {α : Type} (o : α) : ∀ (T : TT α) (m : Nat), Full T m → ((T.ins m o).get m).isSome = true
  | .nil, m, F => by
    have : m = 0 := by
      by_cases h : m = 0
      · exact h
      · have := (F 0).mpr (by omega)
        simp [TT.get] at this
    subst this
    rfl
  | .node v l r, m, F => by
    have h0 : m ≠ 0 := by
      intro h
      subst h
      have := (F 0).mp (by rw [TT.get_node]; simp)
      omega
    rw [TT.ins_node, if_neg h0]
    by_cases p : m % 2 = 1
    · rw [if_pos p, TT.get_node, if_neg h0, if_pos p]
      refine full_ins o l (m / 2) fun i => ?_
      have := F (2 * i + 1)
      rw [TT.get_node, if_neg (by omega), if_pos (by omega), show (2 * i + 1) / 2 = i from by omega] at this
      rw [this]
      omega
    · rw [if_neg p, TT.get_node, if_neg h0, if_neg p]
      refine full_ins o r (m / 2 - 1) fun i => ?_
      have := F (2 * i + 2)
      rw [TT.get_node, if_neg (by omega), if_neg (by omega), show (2 * i + 2) / 2 - 1 = i from by omega] at this
      rw [this]
      omega
theorem Full.ins {α : Type} {T : TT α} {m : Nat} (F : Full T m) (o : α) : Full (T.ins m o) (m + 1) := fun i => by
  rw [TT.get_ins o T m (full_ins o T m F)]
  by_cases h : i = m
  · subst h; simp
  · rw [if_neg h, F i]; omega
theorem Full.set {α : Type} {T : TT α} {m : Nat} (F : Full T m) (j : Nat) (o : α) : Full (T.set j o) m := fun i => by
  rw [TT.get_set]
  by_cases h : i = j
  · subst h; rw [if_pos rfl, Option.isSome_map]; exact F i
  · rw [if_neg h]; exact F i

inductive End where
  | res (r : Result)
  | again (c : Code)
structure Leaf where
  e : End
  os : List Obj
  ns : List (Addr × Obj)
inductive Spec where
  | stop (n : Nat)
  | leaf (wit : Leaf → List Nat) (F : List Nat → Leaf)
  | ask (b : Bool) (x y : Spec)
  | need (p : Prop) (x : Spec)
inductive Q where
  | nat (a : Nat) | code (c : Code) | bool (b : Bool) | prop (p : Prop) | objs (l : List (Addr × Obj)) | leaf (l : Leaf)
inductive Out where
  | stop (n : Nat)
  | leaf (l : Leaf)
  | ask (b : Bool) (x y : Out)
  | need (p : Prop) (x : Out)
  | eq (a b : Q) (x : Out)
  | exN (f : Nat → Out)
  | exW (f : List Nat → Out)
inductive Chk where
  | stop (n : Nat)
  | ok
  | eq (a b : Q) (x : Chk)
  | two (x y : Chk)
  | fnN (f : Nat → Chk)
  | fnW (f : List Nat → Chk)
noncomputable def go : Out → Spec → Chk
  | .stop n, _ => .stop n
  | .leaf l, sp => match sp with
    | .leaf wit F => .eq (.leaf l) (.leaf (F (wit l))) .ok
    | _ => .stop 101
  | .ask b x y, sp => match sp with
    | .ask b' x' y' => .eq (.bool b) (.bool b') (.two (go x x') (go y y'))
    | sp => .two (go x sp) (go y sp)
  | .need p x, sp => match sp with
    | .need p' x' => .eq (.prop p) (.prop p') (go x x')
    | _ => .stop 102
  | .eq a b x, sp => .eq a b (go x sp)
  | .exN f, sp => .fnN fun n => go (f n) sp
  | .exW f, sp => .fnW fun n => go (f n) sp
noncomputable def Chk.lhs : Chk → Chk
  | .stop n => .stop n
  | .ok => .ok
  | .eq a _ x => .eq a a x.lhs
  | .two x y => .two x.lhs y.lhs
  | .fnN f => .fnN fun n => (f n).lhs
  | .fnW f => .fnW fun n => (f n).lhs
noncomputable def Chk.rhs : Chk → Chk
  | .stop _ => .ok
  | .ok => .ok
  | .eq _ b x => .eq b b x.rhs
  | .two x y => .two x.rhs y.rhs
  | .fnN f => .fnN fun n => (f n).rhs
  | .fnW f => .fnW fun n => (f n).rhs
noncomputable def Chk.Good : Chk → Prop
  | .stop _ => False
  | .ok => True
  | .eq a b x => a = b ∧ x.Good
  | .two x y => x.Good ∧ y.Good
  | .fnN f => ∀ n, (f n).Good
  | .fnW f => ∀ n, (f n).Good
theorem Chk.good : ∀ c : Chk, c.lhs = c.rhs → c.Good
  | .stop _, h => by cases h
  | .ok, _ => trivial
  | .eq a b x, h => by
    injection h with h1 _ h3
    exact ⟨h1, Chk.good x h3⟩
  | .two x y, h => by
    injection h with h1 h2
    exact ⟨Chk.good x h1, Chk.good y h2⟩
  | .fnN f, h => fun n => by
    injection h with h1
    exact Chk.good (f n) (congrFun h1 n)
  | .fnW f, h => fun n => by
    injection h with h1
    exact Chk.good (f n) (congrFun h1 n)

structure BV where
  prog : Program
  w : World
  kt : Addr → Obj → Prop
  pre : List Addr
  h₀ : Heap
  A : Around
  R : Result → Shared → Prop
  gens : Array GenState
  d : Drawn
  os : OsState
structure Ends (kt : Addr → Obj → Prop) (pre : List Addr) (h₀ h : Heap) (L : Leaf) : Prop where
  old : ∀ b o, kt b o → h.get? b = some o
  len : L.os.length = pre.length
  own : ∀ (k : Nat) (a : Addr) (o : Obj), pre[k]? = some a → L.os[k]? = some o → h.get? a = some o
  news : ∀ p ∈ L.ns, h.get? p.1 = some p.2 ∧ h₀.get? p.1 = none ∧ ∀ o', ¬ kt p.1 o'
  nd : (L.ns.map (·.1)).Nodup
  keep : ∀ b o, h₀.get? b = some o → b ∉ pre → h.get? b = some o
noncomputable def BV.fin (V : BV) (h : Heap) (tk : Nat) : Shared := ⟨h, V.gens, V.d, tk, V.os⟩
noncomputable def BV.post (V : BV) (e : End) (s : Shared) : Prop := match e with
  | .res r => V.R r s
  | .again c => c.quiet = true ∧ codeAny (model V.prog V.w) V.A c V.R s
noncomputable def wpS (V : BV) : Spec → Prop
  | .stop _ => False
  | .leaf _ F => ∀ ws h tk, Ends V.kt V.pre V.h₀ h (F ws) → V.post (F ws).e (V.fin h tk)
  | .ask b x y => (b = true → wpS V x) ∧ (b = false → wpS V y)
  | .need p x => p ∧ wpS V x
structure Start (kt : Addr → Obj → Prop) (h : Heap) (pre : List (Addr × Obj)) : Prop where
  old : ∀ b o, kt b o → h.get? b = some o
  own : ∀ p ∈ pre, h.get? p.1 = some p.2 ∧ ∀ o', ¬ kt p.1 o'
  nd : (pre.map (·.1)).Nodup
noncomputable def CodeSpec (prog : Program) (w : World) (kt : Addr → Obj → Prop) (D U : Nat) (c : Code) (pre : List (Addr × Obj)) (sp : Spec) : Prop :=
  ∀ (A : Around) (R : Result → Shared → Prop) (s : Shared), A.handled = none → A.depth ≤ D → A.units ≤ U → Start kt s.heap pre →
    wpS ⟨prog, w, kt, pre.map (·.1), s.heap, A, R, s.gens, s.drawn, s.os⟩ sp → codeAny (model prog w) A c R s

inductive Tg where
  | nil
  | cons (n : Nat) (t : Tg)
  | fork (l r : Tg)
noncomputable def walk : Spec → Tg → (Leaf → Nat → Nat → Tg → Out) → Out
  | .stop n, _, _ => .stop n
  | .leaf _ F, ts, K => .exW fun ws => .exN fun N => .exN fun tk => K (F ws) (Nat.add N 16) tk ts
  | .ask b x y, ts, K => match ts with
    | .fork l r => .ask b (walk x l K) (walk y r K)
    | _ => .stop 27
  | .need p x, ts, K => .need p (walk x ts K)
theorem walk_sound {V V' : BV} {K : Leaf → Nat → Nat → Tg → Out} (HZ : ∀ h : Heap, (∀ b o, V'.kt b o → h.get? b = some o) → 16 ≤ h.objs.size)
    (HK : ∀ L h tk sp ts, Ends V'.kt V'.pre V'.h₀ h L → (go (K L h.objs.size tk ts) sp).Good → wpS V sp → V'.post L.e (V'.fin h tk)) :
    ∀ (sp sp0 : Spec) (ts : Tg), (go (walk sp ts K) sp0).Good → wpS V sp0 → wpS V' sp
  | .stop _, _, _, g, _ => by cases g
  | .leaf _ F, sp0, ts, g, H => fun ws h tk E => HK (F ws) h tk sp0 ts E (by
      have z := g ws (h.objs.size - 16) tk
      have : Nat.add (h.objs.size - 16) 16 = h.objs.size := Nat.sub_add_cancel (HZ h E.old)
      rw [this] at z
      exact z) H
  | .ask b x y, sp0, ts, g, H => by
    cases ts with
    | nil => cases g
    | cons => cases g
    | fork l r =>
    cases sp0 with
    | ask b' x' y' =>
      obtain ⟨e, g1, g2⟩ := g
      injection e with e
      subst e
      exact ⟨fun hb => walk_sound HZ HK x x' l g1 (H.1 hb), fun hb => walk_sound HZ HK y y' r g2 (H.2 hb)⟩
    | stop => cases H
    | leaf _ _ => exact ⟨fun _ => walk_sound HZ HK x _ l g.1 H, fun _ => walk_sound HZ HK y _ r g.2 H⟩
    | need p z => exact ⟨fun _ => walk_sound HZ HK x _ l g.1 H, fun _ => walk_sound HZ HK y _ r g.2 H⟩
  | .need p x, sp0, ts, g, H => by
    cases sp0 with
    | need p' x' =>
      obtain ⟨e, g1⟩ := g
      injection e with e
      subst e
      exact ⟨H.1, walk_sound HZ HK x x' ts g1 H.2⟩
    | stop => cases g
    | leaf _ _ => cases g
    | ask _ _ _ => cases g

structure RuleD where
  D : Nat
  U : Nat
  code : Code → List (Addr × Obj) → Code
  objs : Code → List (Addr × Obj) → List (Addr × Obj)
  spec : Code → List (Addr × Obj) → Spec
noncomputable def RuleD.Ok (prog : Program) (w : World) (kt : Addr → Obj → Prop) (r : RuleD) : Prop :=
  ∀ c es, es = r.objs c es → CodeSpec prog w kt r.D r.U (r.code c es) es (r.spec c es)

inductive K2 where
  | base
  | ret (c : Code) (md : Bool) (dep uni : Nat) (k : Result → Sem Fin) (κ : K2)

noncomputable def wt (c : Code) : Nat := match c with
  | .builtin .. => 305
  | _ => 1
theorem weight_le (c : Code) : c.weight ≤ wt c := by
  have hf : c.frames ≤ 3 := by
    unfold Code.frames
    split <;> first | omega | (split <;> omega)
  cases c with
  | builtin id args =>
    unfold Code.weight wt claimMargin
    dsimp only
    (repeat' split) <;> omega
  | _ =>
    simp [Code.weight, wt, Code.isCreation, Code.isGuard, Code.isCaller, Code.frames]
    try (split <;> omega)
theorem units_le (c : Code) : c.cUnits ≤ 10 := by
  have hf : c.frames ≤ 3 := by
    unfold Code.frames
    split <;> first | omega | (split <;> omega)
  unfold Code.cUnits
  split <;> omega

noncomputable def enterThen (fin : Fin) : Sem Fin := match fin with
  | .again c => do enterFrame; pure (.again c)
  | f => pure f
noncomputable def callF (self : Addr) (fd : FuncData) (args : Args) : Sem Fin := do
  let compiled ← match fd.code with
    | .none => pure fd.qualname
    | c => do match ← field c 1 with
      | .str q _ => pure q
      | _ => pure fd.qualname
  let env ← newFunctionEnv fd.scope fd.globals fd.closure (← bindArgs fd args) (compiled ++ ".<locals>.") (some self) fd.code none fd.builtins
  let code : Code := match fd.body with
    | .stmts b => .func b env
    | .expr e => .expr e env
  pure (.again code)
theorem callF_enter (self : Addr) (fd : FuncData) (args : Args) (h1 : fd.scope.isGenerator = false) (h2 : fd.scope.isCoroutine = false) :
    callFunction self fd args = callF self fd args >>= enterThen := by
  unfold callFunction callF
  simp only [h1, h2]
  cases fd.code <;> simp only [bind_assoc, pure_bind, enterThen, again]
  all_goals first | rfl | skip
  all_goals
    refine congrArg _ (funext fun v => ?_)
    cases v <;> simp only [bind_assoc, pure_bind, enterThen] <;> rfl
end Mine

namespace Mine
open PySem PySem.Spec PySem.Calls PyProof.Rows PySem.W PySem.W.X

structure SC where
  den : Code → Sem Fin
  callf : Addr → FuncData → Args → Sem Fin
  quiet : Code → Bool
  prog : Program
  P : Params
  kt : KT
  rules : List RuleD
  p : Nat
noncomputable abbrev Rest2 := LT → Nat → Nat → Nat → Tg → Out
noncomputable abbrev SimTy2 := Code → Bool → K2 → Nat → Nat → Sem Fin → Rest2
noncomputable def isFr (o : Obj) : Bool := match o with
  | ⟨_, _, .freed, _⟩ => true
  | _ => false
theorem isFr_is {o : Obj} (h : isFr o = false) : o.isFreed = false := by
  obtain ⟨c, d, dt, sl⟩ := o
  cases dt <;> first | rfl | cases h
noncomputable def entries (T : LT) : List Nat → Option (List (Addr × Obj))
  | [] => some []
  | j :: js => match T.get j with
    | none => none
    | some x => match entries T js with
      | none => none
      | some l => some (x :: l)
noncomputable def memB (j : Nat) : List Nat → Bool
  | [] => false
  | i :: l => match Nat.beq i j with
    | true => true
    | false => memB j l
noncomputable def nodupB : List Nat → Bool
  | [] => true
  | i :: l => match memB i l with
    | true => false
    | false => nodupB l
noncomputable def setAll (T : LT) : List Nat → List (Addr × Obj) → List Obj → LT
  | j :: js, x :: es, o :: os => setAll (T.set j (x.1, o)) js es os
  | _, _, _ => T
noncomputable def insAll (T : LT) (m : Nat) : List (Addr × Obj) → LT
  | [] => T
  | x :: l => insAll (T.ins m x) (m + 1) l
noncomputable def upto (p : Nat) : List Nat → Bool
  | [] => true
  | j :: l => match Nat.ble p j with
    | true => upto p l
    | false => false
noncomputable def takeL : Nat → Tg → List Nat
  | 0, _ => []
  | k + 1, t => match t with
    | .cons x l => x :: takeL k l
    | _ => []
noncomputable def dropL : Nat → Tg → Tg
  | 0, l => l
  | k + 1, t => match t with
    | .cons _ l => dropL k l
    | _ => .nil
noncomputable def restL : Tg → List Nat
  | .cons x l => x :: restL l
  | _ => []
noncomputable def rangeL : Nat → Nat → List Nat
  | _, 0 => []
  | a, n + 1 => a :: rangeL (a + 1) n
noncomputable def look2 (S : SC) (T : LT) (a : Addr) (tags : Tg) (k : Obj → Tg → Out) : Out := match tags with
  | .cons j ts => match j with
    | 0 => match S.kt.get a with
      | some o => k o ts
      | none => .stop 2
    | j + 1 => match T.get j with
      | some x => .eq (.nat a) (.nat x.1) (k x.2 ts)
      | none => .stop 3
  | _ => .stop 1
noncomputable def leafS (S : SC) (e : End) (T : LT) (tags : List Nat) : Out := match entries T (rangeL 0 S.p) with
  | none => .stop 4
  | some l => match nodupB tags with
    | false => .stop 5
    | true => match upto S.p tags with
      | false => .stop 6
      | true => match entries T tags with
        | none => .stop 7
        | some ns => .leaf ⟨e, l.map (·.2), ns⟩
noncomputable def retS2 (S : SC) (ih : SimTy2) (r : Result) (κ : K2) : Rest2 := match κ with
  | .base => fun T _ _ _ tags => leafS S (.res r) T (restL tags)
  | .ret c md dep uni k κ => ih c md κ dep uni (k r)
noncomputable def funS (S : SC) (ih : SimTy2) (c : Code) (κ : K2) (dep uni : Nat) (ts : Tg) (T : LT) (m N tk : Nat) : Out := match c with
  | .call f args => match f with
    | .ref a => look2 S T a ts fun o ts => match o.data with
      | .func fd => match fd.scope.isGenerator with
        | false => match fd.scope.isCoroutine with
          | false => ih c true κ dep uni (S.callf a fd args) T m N tk ts
          | true => .stop 10
        | true => .stop 10
      | _ => .stop 11
    | _ => .stop 12
  | _ => .stop 13
noncomputable def ruleS (S : SC) (ih : SimTy2) (c : Code) (κ : K2) (dep uni : Nat) (g : Nat) (ts : Tg) (T : LT) (m : Nat) : Out := match S.rules[g]? with
  | none => .stop 20
  | some r => match ts with
    | .cons k ts => match nodupB (takeL k ts) with
      | false => .stop 22
      | true => match entries T (takeL k ts) with
        | none => .stop 23
        | some es => match Nat.ble dep r.D with
          | false => .stop 24
          | true => match Nat.ble uni r.U with
            | false => .stop 25
            | true => .eq (.code c) (.code (r.code c es)) (.eq (.objs es) (.objs (r.objs c es)) (walk (r.spec c es) (dropL k ts) fun L N tk ts' => match L.e with
              | .res x => retS2 S ih x κ (insAll (setAll T (takeL k ts) es L.os) m L.ns) (m + L.ns.length) N tk ts'
              | .again c' => match S.quiet c' with
                | false => .stop 26
                | true => ih c' false κ dep uni (.pure (.again c')) (insAll (setAll T (takeL k ts) es L.os) m L.ns) (m + L.ns.length) N tk ts'))
    | _ => .stop 21
noncomputable def codeS (S : SC) (ih : SimTy2) (c : Code) (κ : K2) (dep uni : Nat) (T : LT) (m N tk : Nat) (tags : Tg) : Out := match tags with
  | .cons g ts => match g with
    | 0 => match Nat.blt (uni + 10) 9900 with
      | true => ih c false κ dep uni (S.den c) T m N tk ts
      | false => .stop 32
    | 1 => funS S ih c κ dep uni ts T m N tk
    | 2 => match κ with
      | .base => leafS S (.again c) T (restL ts)
      | _ => .stop 31
    | g + 3 => ruleS S ih c κ dep uni g ts T m
  | _ => .stop 30
noncomputable def simStep2 (S : SC) (ih : SimTy2) (c : Code) (md : Bool) (κ : K2) (dep uni : Nat) (t : Sem Fin) : Rest2 := match t with
  | .pure fin => match fin with
    | .done f => retS2 S ih (.ok f) κ
    | .again c' => match S.quiet c' with
      | false => fun _ _ _ _ _ => .stop 40
      | true => match md with
        | true => match Nat.blt (dep + wt c) 1000 with
          | true => match Nat.blt (uni + 10) 9900 with
            | true => ih c' false κ dep uni (S.den c')
            | false => fun _ _ _ _ _ => .stop 33
          | false => fun _ _ _ _ _ => .stop 41
        | false => codeS S ih c' κ dep uni
  | .raise e => retS2 S ih (.error e) κ
  | .rule _ k => ih c md κ dep uni (k ())
  | .at _ k => ih c md κ dep uni (k ())
  | .point _ k => ih c md κ dep uni (k ())
  | .ask k => ih c md κ dep uni (k ⟨S.prog, S.P⟩)
  | .load a _ k => fun T m N tk tags => look2 S T a tags fun o ts => ih c md κ dep uni (k o) T m N tk ts
  | .alloc o k => fun T m N tk tags => match isFr o with
    | true => .stop 42
    | false => ih c md κ dep uni (k N) (T.ins m (N, o)) (m + 1) (N + 1) tk tags
  | .update a _ f k => fun T m N tk tags => match tags with
    | .cons j ts => match j with
      | 0 => .stop 44
      | j + 1 => match T.get j with
        | none => .stop 45
        | some x => match isFr (f x.2) with
          | true => .stop 46
          | false => .eq (.nat a) (.nat x.1) (ih c md κ dep uni (k ()) (T.set j (x.1, f x.2)) m N tk ts)
    | _ => .stop 43
  | .fresh k => fun T m N tk tags => ih c md κ dep uni (k tk) T m N (tk + 1) tags
  | .handled own k => match own with
    | false => ih c md κ dep uni (k none)
    | true => fun _ _ _ _ _ => .stop 47
  | .call c' hd _ _ k => match hd with
    | none => codeS S ih c' (.ret c md dep uni k κ) (dep + wt c) (uni + 10)
    | some _ => fun _ _ _ _ _ => .stop 48
  | .stack _ => fun _ _ _ _ _ => .stop 49
  | .unsupported _ => fun _ _ _ _ _ => .stop 50
  | .loadIfAlive .. => fun _ _ _ _ _ => .stop 51
  | .finish _ => fun _ _ _ _ _ => .stop 52
  | _ => fun _ _ _ _ _ => .stop 53
noncomputable def sim2 (S : SC) : Nat → SimTy2
  | 0 => fun _ _ _ _ _ _ _ _ _ _ _ => .stop 60
  | n + 1 => simStep2 S (sim2 S n)
end Mine

namespace Mine
open PySem PySem.Spec PySem.Calls PyProof.Rows PySem.W PySem.W.X

structure SC.Ok (S : SC) (w : World) : Prop where
  den : ∀ (A : Around) (c : Code) (Q : Fin → Shared → Prop) (E : Value → Shared → Prop) (s : Shared), A.handled = none → A.units + 10 < 9900 →
    wpOwn (model S.prog w) A c (S.den c) Q E s → wpOwn (model S.prog w) A c (denote table c) Q E s
  callf : S.callf = callF
  quiet : ∀ c, S.quiet c = true → c.quiet = true
  params : S.P = w.params
  nolimit : ∀ h : Heap, (∀ b o, S.kt.get b = some o → h.get? b = some o) → h.NoLimit
  size : ∀ h : Heap, (∀ b o, S.kt.get b = some o → h.get? b = some o) → 16 ≤ h.objs.size

noncomputable def aroundK (A : Around) : K2 → Around
  | .base => A
  | .ret c _ _ _ _ κ => (aroundK A κ).under c
noncomputable def AOk (A : Around) (dep uni : Nat) : Prop := A.handled = none ∧ A.depth ≤ dep ∧ A.units ≤ uni
noncomputable def KOk (A : Around) : K2 → Prop
  | .base => True
  | .ret _ _ d u _ κ => AOk (aroundK A κ) d u ∧ KOk A κ
theorem AOk.under {A : Around} {dep uni : Nat} (h : AOk A dep uni) (c : Code) : AOk (A.under c) (dep + wt c) (uni + 10) := by
  obtain ⟨h1, h2, h3⟩ := h
  refine ⟨h1, ?_, ?_⟩
  · show A.depth + c.weight ≤ _
    have := weight_le c
    omega
  · show A.units + c.cUnits ≤ _
    have := units_le c
    omega
noncomputable def tailOf (md : Bool) (t : Sem Fin) : Sem Fin := match md with
  | false => t
  | true => t >>= enterThen
noncomputable def endK (V : BV) : K2 → Result → Shared → Prop
  | .base => V.R
  | .ret c md _ _ k κ => fun r s' => wpOwn (model V.prog V.w) (aroundK V.A κ) c (tailOf md (k r)) (postC V.prog V.w (aroundK V.A κ) (endK V κ)) (postE (endK V κ)) s'
noncomputable def Means2 (V : BV) (c : Code) (md : Bool) (κ : K2) (t : Sem Fin) (s : Shared) : Prop :=
  wpOwn (model V.prog V.w) (aroundK V.A κ) c (tailOf md t) (postC V.prog V.w (aroundK V.A κ) (endK V κ)) (postE (endK V κ)) s
structure Inv (p : Nat) (V : BV) (h : Heap) (T : LT) (m N : Nat) : Prop where
  rep : Rep V.kt V.pre V.h₀ h T N
  full : Full T m
  len : V.pre.length = p
  idx : ∀ (k : Nat) (a : Addr), V.pre[k]? = some a → ∃ o, T.get k = some (a, o)
section
variable {p : Nat} {V : BV} {h : Heap} {T : LT} {m N : Nat}
theorem Inv.alloc (D : Inv p V h T m N) {o : Obj} (hf : o.isFreed = false) : Inv p V (h.push o) (T.ins m (N, o)) (m + 1) (N + 1) :=
  ⟨D.rep.alloc hf D.full.none (full_ins _ T m D.full), D.full.ins _, D.len, fun k a e => by
    obtain ⟨o', eo⟩ := D.idx k a e
    refine ⟨o', ?_⟩
    rw [TT.get_ins _ T m (full_ins _ T m D.full), if_neg, eo]
    intro q
    rw [q, D.full.none] at eo
    cases eo⟩
theorem Inv.set (D : Inv p V h T m N) {h' : Heap} {i : Nat} {a : Addr} {o o' : Obj} (e : T.get i = some (a, o)) (hs : Heap.SameBut a h h') (hn : h'.get? a = some o') : Inv p V h' (T.set i (a, o')) m N :=
  ⟨D.rep.set e hs hn, D.full.set _ _, D.len, fun k b eb => by
    obtain ⟨o1, e1⟩ := D.idx k b eb
    by_cases q : k = i
    · subst q
      rw [e] at e1
      cases e1
      exact ⟨o', by rw [TT.get_set, if_pos rfl, e]; rfl⟩
    · exact ⟨o1, by rw [TT.get_set, if_neg q]; exact e1⟩⟩
theorem Inv.update (D : Inv p V h T m N) {i : Nat} {a : Addr} {o : Obj} {f : Obj → Obj} (e : T.get i = some (a, o)) (hf : (f o).isFreed = false) : h.get? a = some o ∧ Inv p V (h.update a f) (T.set i (a, f o)) m N := by
  have z := D.rep.own _ _ _ e
  have hs : Heap.SameBut a h (h.update a f) := Heap.SameBut.update ..
  refine ⟨z.1, D.set e hs ?_⟩
  first | exact Heap.get?_update_self f z.1 hf | exact Heap.get?_update_self _ z.1 hf
theorem entries_get : ∀ {js : List Nat} {l : List (Addr × Obj)}, entries T js = some l → l.length = js.length ∧ ∀ (k j : Nat), js[k]? = some j → T.get j = l[k]?
  | [], l, e => by cases e; exact ⟨rfl, fun k j q => by simp at q⟩
  | j :: js, l, e => by
    unfold entries at e
    cases q : T.get j with
    | none => rw [q] at e; cases e
    | some x =>
      rw [q] at e
      cases q2 : entries T js with
      | none => rw [q2] at e; cases e
      | some l2 =>
        rw [q2] at e
        cases e
        obtain ⟨h1, h2⟩ := entries_get q2
        refine ⟨by simp [h1], fun k i hk => ?_⟩
        cases k with
        | zero => simp at hk; subst hk; simp [q]
        | succ k => simpa using h2 k i (by simpa using hk)
theorem rangeL_get : ∀ (n a k : Nat), (rangeL a n)[k]? = if k < n then some (a + k) else none
  | 0, a, k => by simp [rangeL]
  | n + 1, a, k => by
    cases k with
    | zero => simp [rangeL]
    | succ k =>
      simp only [rangeL, List.getElem?_cons_succ, rangeL_get n (a + 1) k]
      by_cases h : k < n
      · rw [if_pos h, if_pos (by omega)]; congr 1; omega
      · rw [if_neg h, if_neg (by omega)]
theorem rangeL_length : ∀ (n a : Nat), (rangeL a n).length = n
  | 0, _ => rfl
  | n + 1, a => by simp [rangeL, rangeL_length n (a + 1)]
theorem memB_iff (j : Nat) : ∀ l : List Nat, memB j l = true ↔ j ∈ l
  | [] => by simp [memB]
  | i :: l => by
    unfold memB
    rw [BT.beq_eq]
    by_cases h : i = j
    · simp [h]
    · rw [decide_eq_false h]
      show memB j l = true ↔ _
      rw [memB_iff j l]
      simp [Ne.symm h]
theorem nodupB_iff : ∀ l : List Nat, nodupB l = true → l.Nodup
  | [], _ => List.nodup_nil
  | i :: l, h => by
    unfold nodupB at h
    cases q : memB i l with
    | true => rw [q] at h; cases h
    | false =>
      rw [q] at h
      refine List.nodup_cons.mpr ⟨fun hm => ?_, nodupB_iff l h⟩
      rw [(memB_iff i l).mpr hm] at q
      cases q
theorem upto_iff (p : Nat) : ∀ l : List Nat, upto p l = true → ∀ j ∈ l, p ≤ j
  | [], _, j, hj => nomatch hj
  | i :: l, h, j, hj => by
    unfold upto at h
    cases q : Nat.ble p i with
    | false => rw [q] at h; cases h
    | true =>
      rw [q] at h
      rcases List.mem_cons.mp hj with rfl | hj
      · exact Nat.le_of_ble_eq_true q
      · exact upto_iff p l h j hj
theorem entries_nodup (D : Inv p V h T m N) {js : List Nat} {l : List (Addr × Obj)} (e : entries T js = some l) (nd : js.Nodup) : (l.map (·.1)).Nodup := by
  obtain ⟨hl, hg⟩ := entries_get e
  rw [List.nodup_iff_pairwise_ne, List.pairwise_iff_getElem]
  intro i j hi hj hij
  rw [List.getElem_map, List.getElem_map]
  simp only [List.length_map] at hi hj
  intro q
  have e1 := hg i js[i] (List.getElem?_eq_getElem (by omega))
  have e2 := hg j js[j] (List.getElem?_eq_getElem (by omega))
  rw [List.getElem?_eq_getElem hi] at e1
  rw [List.getElem?_eq_getElem hj] at e2
  have z := D.rep.inj _ _ l[i].1 l[i].2 l[j].2 e1 (by rw [q]; exact e2)
  have := (List.nodup_iff_pairwise_ne.mp nd)
  rw [List.pairwise_iff_getElem] at this
  exact this i j (by omega) (by omega) hij z
theorem entries_mem {js : List Nat} {l : List (Addr × Obj)} (e : entries T js = some l) {x : Addr × Obj} (hx : x ∈ l) : ∃ j, j ∈ js ∧ T.get j = some x := by
  obtain ⟨hl, hg⟩ := entries_get e
  obtain ⟨k, hk, rfl⟩ := List.getElem_of_mem hx
  have e1 := hg k js[k] (List.getElem?_eq_getElem (by omega))
  rw [List.getElem?_eq_getElem hk] at e1
  exact ⟨_, List.getElem_mem _, e1⟩
theorem leaf_sound {S : SC} {e : End} {tags : List Nat} {sp : Spec} {tk : Nat} (g : (go (leafS S e T tags) sp).Good) (H : wpS V sp) (D : Inv S.p V h T m N) : V.post e (V.fin h tk) := by
  unfold leafS at g
  cases q1 : entries T (rangeL 0 S.p) with
  | none => rw [q1] at g; cases g
  | some l =>
    rw [q1] at g
    cases q2 : nodupB tags with
    | false => rw [q2] at g; cases g
    | true =>
      rw [q2] at g
      cases q3 : upto S.p tags with
      | false => rw [q3] at g; cases g
      | true =>
        rw [q3] at g
        cases q4 : entries T tags with
        | none => rw [q4] at g; cases g
        | some ns =>
          rw [q4] at g
          cases sp with
          | stop => cases g
          | ask => cases g
          | need => cases g
          | leaf wit F =>
            obtain ⟨e1, _⟩ := g
            injection e1 with e1
            have z := H (wit ⟨e, l.map (·.2), ns⟩) h tk
            rw [← e1] at z
            refine z ?_
            obtain ⟨hl, hg⟩ := entries_get q1
            rw [rangeL_length] at hl
            refine ⟨D.rep.old, by simp [hl, D.len], fun k a o ha ho => ?_, fun x hx => ?_, entries_nodup D q4 (nodupB_iff _ q2), D.rep.keep⟩
            · obtain ⟨o', eo⟩ := D.idx k a ha
              have lt : k < S.p := by
                rw [← D.len]
                exact (List.getElem?_eq_some_iff.mp ha).1
              have e2 := hg k (0 + k) (by rw [rangeL_get, if_pos lt])
              rw [Nat.zero_add, eo] at e2
              have : (l.map (·.2))[k]? = some o' := by rw [List.getElem?_map, ← e2]; rfl
              rw [this] at ho
              cases ho
              exact (D.rep.own _ _ _ eo).1
            · obtain ⟨j, hj, ej⟩ := entries_mem q4 hx
              have y := D.rep.own j x.1 x.2 ej
              refine ⟨y.1, ?_, y.2⟩
              rcases D.rep.mine j x.1 x.2 ej with hm | hm
              · exfalso
                obtain ⟨k, hk', ek⟩ := List.getElem_of_mem hm
                obtain ⟨o', eo⟩ := D.idx k x.1 (by rw [List.getElem?_eq_getElem hk', ek])
                have : j = k := D.rep.inj _ _ _ _ _ ej eo
                have := upto_iff _ _ q3 j hj
                rw [D.len] at hk'
                omega
              · exact hm
theorem setAll_off : ∀ (js : List Nat) (es : List (Addr × Obj)) (os : List Obj) (T : LT) (i : Nat), i ∉ js → (setAll T js es os).get i = T.get i
  | [], _, _, _, _, _ => by simp [setAll]
  | _ :: _, [], _, _, _, _ => by simp [setAll]
  | _ :: _, _ :: _, [], _, _, _ => by simp [setAll]
  | j :: js, x :: es, o :: os, T, i, h => by
    unfold setAll
    rw [setAll_off js es os _ i (fun q => h (List.mem_cons_of_mem _ q)), TT.get_set, if_neg (fun q => h (by rw [q]; exact List.mem_cons_self))]
theorem after_set : ∀ (js : List Nat) (es : List (Addr × Obj)) (os : List Obj) (T : LT), js.Nodup → entries T js = some es → os.length = es.length →
    Full T m → Full (setAll T js es os) m ∧ (∀ (i : Nat) (a : Addr) (o : Obj), (setAll T js es os).get i = some (a, o) → (i ∉ js ∧ T.get i = some (a, o)) ∨ (∃ (k : Nat) (o' : Obj), es[k]? = some (a, o') ∧ os[k]? = some o ∧ T.get i = some (a, o') ∧ i ∈ js)) ∧
      (∀ (i : Nat) (a : Addr) (o : Obj), T.get i = some (a, o) → ∃ o', (setAll T js es os).get i = some (a, o'))
  | [], es, os, T, _, e, hl, F => by
    cases e
    exact ⟨by simpa [setAll] using F, fun i a o h => .inl ⟨by simp, by simpa [setAll] using h⟩, fun i a o h => ⟨o, by simpa [setAll] using h⟩⟩
  | j :: js, es, os, T, nd, e, hl, F => by
    unfold entries at e
    cases q : T.get j with
    | none => rw [q] at e; cases e
    | some x =>
      rw [q] at e
      cases q2 : entries T js with
      | none => rw [q2] at e; cases e
      | some l =>
        rw [q2] at e
        cases e
        cases os with
        | nil => simp at hl
        | cons o os =>
          obtain ⟨nj, nd'⟩ := List.nodup_cons.mp nd
          have e' : entries (T.set j (x.1, o)) js = some l := by
            have : ∀ (js : List Nat) (l : List (Addr × Obj)), j ∉ js → entries T js = some l → entries (T.set j (x.1, o)) js = some l := by
              intro js
              induction js with
              | nil => intro l _ e; exact e
              | cons i js ih =>
                intro l hn e
                unfold entries at e ⊢
                rw [TT.get_set, if_neg (fun q => hn (by rw [q]; exact List.mem_cons_self))]
                cases q1 : T.get i with
                | none => rw [q1] at e; cases e
                | some y =>
                  rw [q1] at e
                  cases q3 : entries T js with
                  | none => rw [q3] at e; cases e
                  | some l' =>
                    rw [q3] at e
                    rw [ih l' (fun q => hn (List.mem_cons_of_mem _ q)) q3]
                    exact e
            exact this js l nj q2
          obtain ⟨F', h1, h2⟩ := after_set js l os (T.set j (x.1, o)) nd' e' (by simpa using hl) (F.set _ _)
          refine ⟨F', fun i a oo h => ?_, fun i a oo h => ?_⟩
          · rcases h1 i a oo h with ⟨hn, ht⟩ | ⟨k, o', k1, k2, k3, k4⟩
            · rw [TT.get_set] at ht
              by_cases hi : i = j
              · subst hi
                rw [if_pos rfl, q] at ht
                cases ht
                exact .inr ⟨0, _, by simp, by simp, q, List.mem_cons_self⟩
              · rw [if_neg hi] at ht
                exact .inl ⟨fun hm => (List.mem_cons.mp hm).elim hi hn, ht⟩
            · have hi : i ≠ j := fun q => nj (q ▸ k4)
              rw [TT.get_set, if_neg hi] at k3
              exact .inr ⟨k + 1, o', by simpa using k1, by simpa using k2, k3, List.mem_cons_of_mem _ k4⟩
          · by_cases hi : i = j
            · subst hi
              rw [q] at h
              cases h
              exact h2 i _ o (by rw [TT.get_set, if_pos rfl, q]; rfl)
            · exact h2 i a oo (by rw [TT.get_set, if_neg hi]; exact h)
theorem Inv.add (D : Inv p V h T m N) {a : Addr} {o : Obj} (h1 : h.get? a = some o) (h2 : ∀ o', ¬ V.kt a o') (h3 : V.h₀.get? a = none) (h4 : ∀ i o', T.get i ≠ some (a, o')) : Inv p V h (T.ins m (a, o)) (m + 1) N := by
  have gi := TT.get_ins (a, o) T m (full_ins _ T m D.full)
  refine ⟨⟨D.rep.size, D.rep.old, fun i b ob e => ?_, fun i j b o1 o2 e1 e2 => ?_, D.rep.keep, fun i b ob e => ?_, fun b hb => ?_⟩, D.full.ins _, D.len, fun k b e => ?_⟩
  · rw [gi] at e
    by_cases hi : i = m
    · rw [if_pos hi] at e; cases e; exact ⟨h1, h2⟩
    · rw [if_neg hi] at e; exact D.rep.own i b ob e
  · rw [gi] at e1 e2
    by_cases hi : i = m
    · by_cases hj : j = m
      · rw [hi, hj]
      · rw [if_pos hi] at e1; rw [if_neg hj] at e2; cases e1; exact absurd e2 (h4 _ _)
    · by_cases hj : j = m
      · rw [if_neg hi] at e1; rw [if_pos hj] at e2; cases e2; exact absurd e1 (h4 _ _)
      · rw [if_neg hi] at e1; rw [if_neg hj] at e2; exact D.rep.inj _ _ _ _ _ e1 e2
  · rw [gi] at e
    by_cases hi : i = m
    · rw [if_pos hi] at e; cases e; exact .inr h3
    · rw [if_neg hi] at e; exact D.rep.mine i b ob e
  · obtain ⟨i, o', e⟩ := D.rep.cov b hb
    refine ⟨i, o', ?_⟩
    rw [gi, if_neg, e]
    intro q
    rw [q, D.full.none] at e
    cases e
  · obtain ⟨o', e'⟩ := D.idx k b e
    refine ⟨o', ?_⟩
    rw [gi, if_neg, e']
    intro q
    rw [q, D.full.none] at e'
    cases e'
theorem Inv.addAll : ∀ (ns : List (Addr × Obj)) {T : LT} {m : Nat}, Inv p V h T m N → (∀ x ∈ ns, h.get? x.1 = some x.2 ∧ (∀ o', ¬ V.kt x.1 o') ∧ V.h₀.get? x.1 = none) → (ns.map (·.1)).Nodup → (∀ x ∈ ns, ∀ i o', T.get i ≠ some (x.1, o')) → Inv p V h (insAll T m ns) (m + ns.length) N
  | [], T, m, D, _, _, _ => D
  | x :: ns, T, m, D, h1, nd, h4 => by
    unfold insAll
    obtain ⟨nx, nd'⟩ := List.nodup_cons.mp nd
    have y := h1 x List.mem_cons_self
    have z := Inv.addAll ns (D.add y.1 y.2.1 y.2.2 (h4 x List.mem_cons_self)) (fun x' hx => h1 x' (List.mem_cons_of_mem _ hx)) nd' (fun x' hx i o' e => by
      rw [TT.get_ins _ T m (full_ins _ T m D.full)] at e
      by_cases hi : i = m
      · rw [if_pos hi] at e
        have e1 : x.1 = x'.1 := by injection e with e; injection e
        exact nx (List.mem_map.mpr ⟨x', hx, e1.symm⟩)
      · rw [if_neg hi] at e
        exact h4 x' (List.mem_cons_of_mem _ hx) i o' e)
    rw [List.length_cons, show m + (ns.length + 1) = m + 1 + ns.length from by omega]
    exact z
/-- a contract has been used at some entries: the new ledger -/
theorem Inv.after (D : Inv p V h T m N) {js : List Nat} {es : List (Addr × Obj)} (nd : js.Nodup) (e : entries T js = some es) {h' : Heap} {L : Leaf} (E : Ends V.kt (es.map (·.1)) h h' L) :
    Inv p V h' (insAll (setAll T js es L.os) m L.ns) (m + L.ns.length) h'.objs.size := by
  have hlen : L.os.length = es.length := by rw [E.len, List.length_map]
  obtain ⟨F', g1, g2⟩ := after_set js es L.os T nd e hlen D.full
  have own : ∀ i a o, (setAll T js es L.os).get i = some (a, o) → h'.get? a = some o ∧ (∃ o', T.get i = some (a, o')) := by
    intro i a o ei
    rcases g1 i a o ei with ⟨hn, ht⟩ | ⟨k, o', k1, k2, k3, k4⟩
    · refine ⟨E.keep a o (D.rep.own _ _ _ ht).1 fun hm => ?_, o, ht⟩
      obtain ⟨x, hx, ex⟩ := List.mem_map.mp hm
      obtain ⟨j, hj, ej⟩ := entries_mem e hx
      have : i = j := D.rep.inj _ _ a o x.2 ht (by rw [ej, ← ex])
      exact hn (this ▸ hj)
    · exact ⟨E.own k a o (by rw [List.getElem?_map, k1]; rfl) k2, o', k3⟩
  have base : Inv p V h' (setAll T js es L.os) m h'.objs.size := by
    refine ⟨⟨rfl, E.old, fun i a o ei => ?_, fun i j a o1 o2 e1 e2 => ?_, fun b o eb hb => ?_, fun i a o ei => ?_, fun a ha => ?_⟩, F', D.len, fun k a ek => ?_⟩
    · obtain ⟨y, o', eo⟩ := own i a o ei
      exact ⟨y, (D.rep.own _ _ _ eo).2⟩
    · obtain ⟨_, o1', y1⟩ := own i a o1 e1
      obtain ⟨_, o2', y2⟩ := own j a o2 e2
      exact D.rep.inj _ _ _ _ _ y1 y2
    · refine E.keep b o (D.rep.keep b o eb hb) fun hm => ?_
      obtain ⟨x, hx, ex⟩ := List.mem_map.mp hm
      obtain ⟨j, hj, ej⟩ := entries_mem e hx
      rcases D.rep.mine j x.1 x.2 ej with y | y
      · exact hb (ex ▸ y)
      · rw [ex, eb] at y; cases y
    · obtain ⟨_, o', y⟩ := own i a o ei
      exact D.rep.mine i a o' y
    · obtain ⟨i, o, ei⟩ := D.rep.cov a ha
      obtain ⟨o', eo⟩ := g2 i a o ei
      exact ⟨i, o', eo⟩
    · obtain ⟨o, eo⟩ := D.idx k a ek
      obtain ⟨o', e'⟩ := g2 k a o eo
      exact ⟨o', e'⟩
  refine base.addAll L.ns (fun x hx => ?_) E.nd (fun x hx i o' ei => ?_)
  · obtain ⟨y1, y2, y3⟩ := E.news x hx
    refine ⟨y1, y3, ?_⟩
    cases q : V.h₀.get? x.1 with
    | none => rfl
    | some o =>
      obtain ⟨o', eo⟩ := D.rep.there q
      rw [y2] at eo; cases eo
  · obtain ⟨_, o2, y⟩ := own i x.1 o' ei
    have := (D.rep.own _ _ _ y).1
    rw [(E.news x hx).2.1] at this
    cases this
end
end Mine

namespace Mine
open PySem PySem.Spec PySem.Calls PyProof.Rows PySem.W PySem.W.X

/-- the state at a step -/
structure St (S : SC) (V : BV) (κ : K2) (dep uni : Nat) (h : Heap) (T : LT) (m N : Nat) : Prop where
  inv : Inv S.p V h T m N
  a : AOk (aroundK V.A κ) dep uni
  k : KOk V.A κ
theorem nodup_pre {p : Nat} {V : BV} {h : Heap} {T : LT} {m N : Nat} {js : List Nat} {es : List (Addr × Obj)} (D : Inv p V h T m N) (e : entries T js = some es) (nd : js.Nodup) : Start V.kt h es :=
  ⟨D.rep.old, fun x hx => by
    obtain ⟨j, _, ej⟩ := entries_mem e hx
    exact D.rep.own j x.1 x.2 ej, entries_nodup D e nd⟩
noncomputable def Sound (S : SC) (V : BV) (ih : SimTy2) : Prop :=
  ∀ c md κ dep uni t T m N tk tags sp h, (go (ih c md κ dep uni t T m N tk tags) sp).Good → wpS V sp → St S V κ dep uni h T m N → Means2 V c md κ t (V.fin h tk)
section
variable {S : SC} {V : BV} {ih : SimTy2} (O : S.Ok V.w) (hp : S.prog = V.prog) (hkt : ∀ b o, S.kt.get b = some o → V.kt b o) (HR : ∀ r ∈ S.rules, RuleD.Ok V.prog V.w V.kt r) (IH : Sound S V ih)
variable {κ : K2} {dep uni : Nat} {h : Heap} {T : LT} {m N tk : Nat} {tags : Tg} {sp : Spec}
theorem look_sound {a : Addr} {k : Obj → Tg → Out} (hkt : ∀ b o, S.kt.get b = some o → V.kt b o) (D : Inv S.p V h T m N) (g : (go (look2 S T a tags k) sp).Good) : ∃ o ts, h.get? a = some o ∧ (go (k o ts) sp).Good := by
  unfold look2 at g
  split at g
  · rename_i j ts
    split at g
    · split at g
      · rename_i o e
        exact ⟨o, ts, D.rep.old a o (hkt _ _ e), g⟩
      · cases g
    · split at g
      · rename_i x e
        obtain ⟨q, g⟩ := g
        injection q with q
        refine ⟨x.2, ts, ?_, g⟩
        rw [q]
        exact (D.rep.own _ x.1 x.2 e).1
      · cases g
  · cases g
include IH
theorem ret_sound {r : Result} (g : (go (retS2 S ih r κ T m N tk tags) sp).Good) (H : wpS V sp) (D : Inv S.p V h T m N) (hk : KOk V.A κ) : endK V κ r (V.fin h tk) := by
  cases κ with
  | base => exact leaf_sound g H D
  | ret c md d u k κ => exact IH _ _ _ _ _ _ _ _ _ _ _ _ _ g H ⟨D, hk.1, hk.2⟩
include O hp hkt HR
theorem fun_sound {c : Code} {ts : Tg} (g : (go (funS S ih c κ dep uni ts T m N tk) sp).Good) (H : wpS V sp) (D : St S V κ dep uni h T m N) : codeAny (model V.prog V.w) (aroundK V.A κ) c (endK V κ) (V.fin h tk) := by
  unfold funS at g
  split at g
  · rename_i f args
    split at g
    · rename_i a
      obtain ⟨o, ts, ho, g⟩ := look_sound hkt D.inv g
      split at g
      · rename_i fd hd
        split at g
        · rename_i h1
          split at g
          · rename_i h2
            have z := IH _ _ _ _ _ _ _ _ _ _ _ _ _ g H D
            unfold Means2 at z
            rw [O.callf] at z
            refine y_code _ _ _ _ _ _ ?_
            have e : denote table (.call (.ref a) args) = .load a none (fun o => (match o.data with
              | .func fd => callFunction a fd args
              | .fields vs =>
                if o.cls == .type "method" || o.cls == .type "builtin_function_or_method" || o.cls == .type "method-wrapper" then (do
                  let (some func, some self) := (vs[0]?, vs[1]?) | unsupported "internal:method-record"
                  let all := { args with pos := self :: args.pos }
                  if let .builtin id := func then
                    if o.cls != .type "method" then
                      checkBoundCall id all
                      return ← again (.builtin id all)
                  again (.call func all))
                else callAny.viaDunder (.ref a) args
              | _ => callAny.viaDunder (.ref a) args)) := rfl
            rw [e]
            refine y_load _ _ _ _ _ _ _ _ _ _ _ _ _ _ _ o ho ?_
            rw [hd]
            show wpOwn _ _ _ (callFunction a fd args) _ _ _
            rw [callF_enter a fd args h1 h2]
            exact z
          · cases g
        · cases g
      · cases g
    · cases g
  · cases g
theorem rule_sound {c : Code} {gi : Nat} {ts : Tg} (g : (go (ruleS S ih c κ dep uni gi ts T m) sp).Good) (H : wpS V sp) (D : St S V κ dep uni h T m N) : codeAny (model V.prog V.w) (aroundK V.A κ) c (endK V κ) (V.fin h tk) := by
  unfold ruleS at g
  split at g
  · cases g
  · rename_i r er
    split at g
    · rename_i k ts
      split at g
      · cases g
      · rename_i nd
        split at g
        · cases g
        · rename_i es ee
          split at g
          · cases g
          · rename_i hd
            split at g
            · cases g
            · rename_i hu
              obtain ⟨q1, q2, g⟩ := g
              injection q1 with q1
              injection q2 with q2
              have ok := HR r (List.mem_of_getElem? er) c es q2
              rw [← q1] at ok
              refine ok (aroundK V.A κ) (endK V κ) (V.fin h tk) D.a.1 (Nat.le_trans D.a.2.1 (Nat.le_of_ble_eq_true hd)) (Nat.le_trans D.a.2.2 (Nat.le_of_ble_eq_true hu)) (nodup_pre D.inv ee (nodupB_iff _ nd)) ?_
              refine walk_sound (HZ := fun h' H' => O.size h' fun b o e => H' b o (hkt _ _ e)) (V := V) (V' := ⟨V.prog, V.w, V.kt, es.map (·.1), h, aroundK V.A κ, endK V κ, V.gens, V.d, V.os⟩) (fun L h' tk' sp' ts' E g' H' => ?_) _ _ _ g H
              have D' := D.inv.after (nodupB_iff _ nd) ee E
              unfold BV.post
              split at g'
              · rename_i x ex
                try rw [ex]
                exact ret_sound IH g' H' D' D.k
              · rename_i c' ex
                try rw [ex]
                split at g'
                · cases g'
                · rename_i hq
                  have z := IH _ _ _ _ _ _ _ _ _ _ _ _ _ g' H' ⟨D', D.a, D.k⟩
                  exact ⟨O.quiet _ hq, fun Γ p hc hΓ => (z Γ p hc hΓ).2 Γ p hc hΓ⟩
    · cases g
theorem code_sound {c : Code} (g : (go (codeS S ih c κ dep uni T m N tk tags) sp).Good) (H : wpS V sp) (D : St S V κ dep uni h T m N) : codeAny (model V.prog V.w) (aroundK V.A κ) c (endK V κ) (V.fin h tk) := by
  unfold codeS at g
  split at g
  · split at g
    · cases hb : Nat.blt (uni + 10) 9900 with
      | false => simp only [hb] at g; cases g
      | true =>
        simp only [hb] at g
        have z := IH _ _ _ _ _ _ _ _ _ _ _ _ _ g H D
        unfold Means2 at z
        have h2 : uni + 10 < 9900 := Nat.le_of_ble_eq_true hb
        have hd := O.den (aroundK V.A κ) c (postC V.prog V.w (aroundK V.A κ) (endK V κ)) (postE (endK V κ)) (V.fin h tk) D.a.1 (Nat.lt_of_le_of_lt (Nat.add_le_add_right D.a.2.2 10) h2)
        rw [hp] at hd
        exact y_code _ _ _ _ _ _ (hd z)
    · exact fun_sound O hp hkt HR IH g H D
    · split at g
      · exact (leaf_sound (e := .again c) g H D.inv).2
      · cases g
    · exact rule_sound O hp hkt HR IH g H D
  · cases g
theorem step_sound2 : Sound S V (simStep2 S ih) := by
  intro c md κ dep uni t T m N tk tags sp h g H D
  unfold simStep2 at g
  split at g
  · split at g
    · rename_i f
      have z := ret_sound IH g H D.inv D.k
      cases md with
      | false => exact y_pure _ _ _ _ _ _ _ _ _ (y_done _ _ _ _ _ _ z)
      | true => exact y_pure _ _ _ _ _ _ _ _ _ (y_done _ _ _ _ _ _ z)
    · rename_i c'
      cases hq : S.quiet c' with
      | false => simp only [hq] at g; cases g
      | true =>
        simp only [hq] at g
        have hq := O.quiet _ hq
        cases md with
        | true =>
          cases hd : Nat.blt (dep + wt c) 1000 with
          | false => simp only [hd] at g; cases g
          | true =>
            simp only [hd] at g
            cases hb : Nat.blt (uni + 10) 9900 with
            | false => simp only [hb] at g; cases g
            | true =>
            simp only [hb] at g
            have z := IH _ _ _ _ _ _ _ _ _ _ _ _ _ g H D
            unfold Means2 at z
            have h3 : uni + 10 < 9900 := Nat.le_of_ble_eq_true hb
            have hdn := O.den (aroundK V.A κ) c' (postC V.prog V.w (aroundK V.A κ) (endK V κ)) (postE (endK V κ)) (V.fin h tk) D.a.1 (Nat.lt_of_le_of_lt (Nat.add_le_add_right D.a.2.2 10) h3)
            rw [hp] at hdn
            have z := hdn z
            have hdep : ((aroundK V.A κ).under c).depth < recursionLimit := by
              have h1 := D.a.under c
              have h2 : dep + wt c < 1000 := Nat.le_of_ble_eq_true hd
              exact Nat.lt_of_le_of_lt h1.2.1 h2
            show wpOwn _ _ _ ((do enterFrame; pure (.again c') : Sem Fin)) _ _ _
            refine wpOwn_bind (wpOwn_of_wpAny (wpAny_enterFrame (O.nolimit _ (fun b o e => D.inv.rep.old b o (hkt _ _ e))) hdep ?_))
            exact y_pure _ _ _ _ _ _ _ _ _ (y_again _ _ _ _ _ _ hq (y_code _ _ _ _ _ _ z))
        | false => exact y_pure _ _ _ _ _ _ _ _ _ (y_again _ _ _ _ _ _ hq (code_sound O hp hkt HR IH g H D))
  · have z := ret_sound IH g H D.inv D.k
    cases md with
    | false => exact y_raise _ _ _ _ _ _ _ _ _ (y_err _ _ _ z)
    | true => exact y_raise _ _ _ _ _ _ _ _ _ (y_err _ _ _ z)
  · have z := IH _ _ _ _ _ _ _ _ _ _ _ _ _ g H D
    cases md <;> exact y_skim _ _ _ _ _ _ _ _ _ 1 z
  · have z := IH _ _ _ _ _ _ _ _ _ _ _ _ _ g H D
    cases md <;> exact y_skim _ _ _ _ _ _ _ _ _ 1 z
  · have z := IH _ _ _ _ _ _ _ _ _ _ _ _ _ g H D
    cases md <;> exact y_skim _ _ _ _ _ _ _ _ _ 1 z
  · have z := IH _ _ _ _ _ _ _ _ _ _ _ _ _ g H D
    rw [hp, O.params] at z
    cases md <;> exact y_skim _ _ _ _ _ _ _ _ _ 1 z
  · obtain ⟨o, ts, ho, g⟩ := look_sound hkt D.inv g
    have z := IH _ _ _ _ _ _ _ _ _ _ _ _ _ g H D
    cases md <;> exact y_load _ _ _ _ _ _ _ _ _ _ _ _ _ _ _ _ ho z
  · split at g
    · cases g
    · rename_i o k _ hf
      have D' : St S V κ dep uni _ _ _ _ := ⟨D.inv.alloc (isFr_is hf), D.a, D.k⟩
      have z := IH _ _ _ _ _ _ _ _ _ _ _ _ _ g H D'
      have ea := D.inv.rep.size
      cases md
      · refine wpOwn_bind (m := alloc _) (wpOwn_of_wpAny (wpAny_alloc ?_))
        show wpOwn _ _ _ (k h.objs.size) _ _ _
        rw [ea]; exact z
      · refine wpOwn_bind (m := alloc _) (wpOwn_of_wpAny (wpAny_alloc ?_))
        show wpOwn _ _ _ ((k h.objs.size) >>= enterThen) _ _ _
        rw [ea]; exact z
  · split at g
    · split at g
      · cases g
      · split at g
        · cases g
        · rename_i x ex
          split at g
          · cases g
          · rename_i hf
            obtain ⟨q, g⟩ := g
            injection q with q
            subst q
            obtain ⟨ho, D'⟩ := D.inv.update ex (isFr_is hf)
            have z := IH _ _ _ _ _ _ _ _ _ _ _ _ _ g H ⟨D', D.a, D.k⟩
            cases md
            · exact wpOwn_bind (m := updatePart _ _ _) (wpOwn_of_wpAny (wpAny_updatePart ho z))
            · exact wpOwn_bind (m := updatePart _ _ _) (wpOwn_of_wpAny (wpAny_updatePart ho z))
    · cases g
  · have z := IH _ _ _ _ _ _ _ _ _ _ _ _ _ g H D
    cases md <;> exact y_fresh _ _ _ _ _ _ _ _ _ _ _ _ _ z
  · split at g
    · have z := IH _ _ _ _ _ _ _ _ _ _ _ _ _ g H D
      have ha := D.a.1
      cases md
      · exact y_handled _ _ _ _ _ _ _ _ _ (by rw [ha]; exact z)
      · exact y_handled _ _ _ _ _ _ _ _ _ (by rw [ha]; exact z)
    · cases g
  · split at g
    · have z := code_sound O hp hkt HR IH (κ := .ret c md dep uni _ κ) g H ⟨D.inv, D.a.under c, ⟨D.a, D.k⟩⟩
      cases md
      · exact y_call _ _ _ _ _ _ _ _ _ _ _ _ _ (by intro q; cases q) z
      · exact y_call _ _ _ _ _ _ _ _ _ _ _ _ _ (by intro q; cases q) z
    · cases g
  all_goals cases g
end
theorem sim_sound2 {S : SC} {V : BV} (O : S.Ok V.w) (hp : S.prog = V.prog) (hkt : ∀ b o, S.kt.get b = some o → V.kt b o) (HR : ∀ r ∈ S.rules, RuleD.Ok V.prog V.w V.kt r) : ∀ n, Sound S V (sim2 S n)
  | 0 => fun _ _ _ _ _ _ _ _ _ _ _ _ _ g _ _ => by cases g
  | n + 1 => step_sound2 O hp hkt HR (sim_sound2 O hp hkt HR n)
end Mine

namespace Mine
open PySem PySem.Spec PySem.Calls PyProof.Rows PySem.W PySem.W.X

noncomputable def kdel : KT → Nat → KT
  | .nil, _ => .nil
  | .node v l r, i => match Nat.beq i 0 with
    | true => .node none l r
    | false => match Nat.beq (i % 2) 1 with
      | true => .node v (kdel l (i / 2)) r
      | false => .node v l (kdel r (i / 2 - 1))
theorem kdel_node (v : Option Obj) (l r : KT) (i : Nat) : kdel (.node v l r) i = if i = 0 then .node none l r else if i % 2 = 1 then .node v (kdel l (i / 2)) r else .node v l (kdel r (i / 2 - 1)) := by
  show (match Nat.beq i 0 with | true => KT.node none l r | false => match Nat.beq (i % 2) 1 with | true => KT.node v (kdel l (i / 2)) r | false => KT.node v l (kdel r (i / 2 - 1))) = _
  rw [BT.beq_eq, BT.beq_eq]
  by_cases h : i = 0
  · simp [h]
  · by_cases q : i % 2 = 1 <;> simp [h, q]
theorem kdel_get {o : Obj} : ∀ {t : KT} {i j : Nat}, (kdel t i).get j = some o → t.get j = some o ∧ j ≠ i
  | .nil, _, _, e => by cases e
  | .node v l r, i, j, e => by
    rw [kdel_node] at e
    rw [KT.get_node]
    by_cases hi : i = 0
    · rw [if_pos hi, KT.get_node] at e
      by_cases hj : j = 0
      · rw [if_pos hj] at e; cases e
      · rw [if_neg hj] at e ⊢
        exact ⟨e, by omega⟩
    · rw [if_neg hi] at e
      by_cases pi : i % 2 = 1
      · rw [if_pos pi, KT.get_node] at e
        by_cases hj : j = 0
        · rw [if_pos hj] at e ⊢
          exact ⟨e, by omega⟩
        · rw [if_neg hj] at e ⊢
          by_cases pj : j % 2 = 1
          · rw [if_pos pj] at e ⊢
            have := kdel_get e
            exact ⟨this.1, by omega⟩
          · rw [if_neg pj] at e ⊢
            exact ⟨e, by omega⟩
      · rw [if_neg pi, KT.get_node] at e
        by_cases hj : j = 0
        · rw [if_pos hj] at e ⊢
          exact ⟨e, by omega⟩
        · rw [if_neg hj] at e ⊢
          by_cases pj : j % 2 = 1
          · rw [if_pos pj] at e ⊢
            exact ⟨e, by omega⟩
          · rw [if_neg pj] at e ⊢
            have := kdel_get e
            exact ⟨this.1, by omega⟩

noncomputable def den0 : Code → Sem Fin := ZFast.zw11892475500146522536 ZFast.tableZ
theorem den0_is : den0 = denote table := by
  unfold den0
  rw [← ZFast.ze11892475500146522536, ← ZFast.tableZ_eq]
noncomputable def quiet0 : Code → Bool := ZFast.zw17772548960776305114
theorem quiet0_is (c : Code) (h : quiet0 c = true) : c.quiet = true := by
  unfold quiet0 at h
  rw [← ZFast.ze17772548960776305114] at h
  exact h
noncomputable def callZ (self : Addr) (fd : FuncData) (args : Args) : Sem Fin :=
  let jp := fun (q : Str) => R.bindR (ZFast.zw9782568553167038054 fd args) fun bs =>
    R.bindR (ZFast.zw11113344188204177931 fd.scope fd.globals fd.closure bs (@HAppend.hAppend Str Str Str (@instHAppendOfAppend Str ZFast.zw178013285451222756) q (Str.mk (Array.mk [46, 60, 108, 111, 99, 97, 108, 115, 62, 46]))) (some self) fd.code none fd.builtins) fun env =>
      .pure (.again (match fd.body with | .stmts b => .func b env | .expr e => .expr e env))
  match fd.code with
  | .none => jp fd.qualname
  | c => R.bindR (ZFast.zw6609576154772507232 c 1) fun v => match v with
    | .str q _ => jp q
    | _ => jp fd.qualname
theorem callZ_is : callZ = callF := by
  funext self fd args
  have e1 : (Str.mk (Array.mk [46, 60, 108, 111, 99, 97, 108, 115, 62, 46])) = Str.ofString ".<locals>." := by decide +kernel
  unfold callZ callF
  rw [← ZFast.ze9782568553167038054, ← ZFast.ze11113344188204177931, ← ZFast.ze6609576154772507232, ← ZFast.ze178013285451222756, ← R.bindR_eq, e1]
  cases fd.code <;> first | rfl | skip
  all_goals
    refine congrArg (Sem.bind _) (funext fun v => ?_)
    cases v <;> rfl

noncomputable def pat (P : Params) (b1 b2 : Bool) : Params := { P with followText := fun s => cond (S.eqLit 10139888712337904147300001983332972444938612 s) b1 (cond (S.eqLit 2510650655181157320538776789020469319833841985448949215332 s) b2 (P.followText s)) }
theorem pat_is (P : Params) : P = pat P (P.followText "special-get-raises") (P.followText "comprehension-iter-twice") := by
  have h1 := S.eqLit_eq "special-get-raises" 10139888712337904147300001983332972444938612 (by decide +kernel)
  have h2 := S.eqLit_eq "comprehension-iter-twice" 2510650655181157320538776789020469319833841985448949215332 (by decide +kernel)
  have : P.followText = fun s => cond (S.eqLit 10139888712337904147300001983332972444938612 s) (P.followText "special-get-raises") (cond (S.eqLit 2510650655181157320538776789020469319833841985448949215332 s) (P.followText "comprehension-iter-twice") (P.followText s)) := by
    funext s
    rw [← congrFun h1 s, ← congrFun h2 s]
    by_cases q : s = "special-get-raises"
    · subst q; rfl
    · by_cases q2 : s = "comprehension-iter-twice"
      · subst q2; rfl
      · have e1 : (s == "special-get-raises") = false := beq_eq_false_iff_ne.mpr q
        have e2 : (s == "comprehension-iter-twice") = false := beq_eq_false_iff_ne.mpr q2
        show P.followText s = cond (s == "special-get-raises") _ (cond (s == "comprehension-iter-twice") _ _)
        rw [e1, e2]; rfl
  unfold pat
  rw [← this]
end Mine

namespace Mine
open PySem PySem.Spec PySem.Calls PyProof.Rows PySem.W PySem.W.X

/-- one piece of a program may stand for another -/
noncomputable def RefR {α : Type} (t t' : Sem α) : Prop := ∀ (M : Model) (Γ : PySem.Ctx) (Q : α → Pos → Shared → Prop) (E : Value → Pos → Shared → Prop) (p : Pos) (s : Shared), Γ.units < cLine → Sem.wp M Γ t Q E p s → Sem.wp M Γ t' Q E p s
theorem RefR.rfl {α : Type} {t : Sem α} : RefR t t := fun _ _ _ _ _ _ _ h => h
theorem RefR.of_eq {α : Type} {t t' : Sem α} (e : t = t') : RefR t t' := e ▸ RefR.rfl
theorem RefR.trans {α : Type} {t t' t'' : Sem α} (h : RefR t t') (h' : RefR t' t'') : RefR t t'' := fun M Γ Q E p s u x => h' M Γ Q E p s u (h M Γ Q E p s u x)
theorem RefR.bind {α β : Type} {t t' : Sem α} {f f' : α → Sem β} (h : RefR t t') (hf : ∀ a, RefR (f a) (f' a)) : RefR (t >>= f) (t' >>= f') := fun M Γ Q E p s u x => by
  rw [Sem.wp_bind'] at x ⊢
  exact Sem.wp_mono M Γ t' (fun a p' s' h' => hf a M Γ Q E p' s' u h') (fun _ _ _ h' => h') p s (h M Γ _ E p s u x)
theorem RefR.holding {α : Type} {vs : List Value} {t t' : Sem α} (h : RefR t t') : RefR (holding vs t) (holding vs t') := fun M Γ Q E p s u x => by
  rw [Sem.wp_holding] at x ⊢
  exact h M Γ Q E p s u x
theorem RefR.room {α : Type} {what : String} {vs : List Value} {f : Unit → Sem α} : RefR (f ()) (cRoomFor what vs >>= f) := fun M Γ Q E p s u x => by
  rw [Sem.wp_bind']
  exact Sem.wp_cRoomFor what vs u x
/-- the comparison after its look at the room -/
noncomputable def richRest : { f : CmpOp → Value → Value → Sem Value // ∀ op a b, ZFast.zw9423741818375054981 op a b = ZFast.zw17359229931016689406 [a, b] (@bind Sem ZFast.zw12456147031677567982.toBind Unit Value (ZFast.zw13383273872528276517 SZ.s11780134324901847377x10 [a, b]) fun _ => f op a b) } := ⟨_, fun _ _ _ => rfl⟩
noncomputable def richL (op : CmpOp) (a b : Value) : Sem Value := ZFast.zw17359229931016689406 [a, b] (richRest.1 op a b)
theorem richL_ref (op : CmpOp) (a b : Value) : RefR (richL op a b) (richCompare op a b) := by
  rw [ZFast.ze9423741818375054981, richRest.2]
  unfold richL
  generalize richRest.1 op a b = x
  rw [← ZFast.ze17359229931016689406, ← ZFast.ze13383273872528276517, ← ZFast.ze12456147031677567982]
  exact RefR.holding (RefR.room (f := fun _ => x))
end Mine

namespace Mine
open PySem PySem.Spec PySem.Calls PyProof.Rows PySem.W PySem.W.X

theorem RefR.operate {vs : List Value} {t t' : Sem Value} (h : RefR t t') : RefR (PySem.operate vs t) (PySem.operate vs t') := fun M Γ Q E p s u x => by
  rw [Sem.wp_operate] at x ⊢
  exact h M Γ Q E p s u x
theorem RefR.onRaise {α : Type} {k : Value → Sem Unit} {t t' : Sem α} (h : RefR t t') : RefR (t.onRaise k) (t'.onRaise k) := fun M Γ Q E p s u x => by
  rw [Sem.wp_onRaise] at x ⊢
  exact h M Γ Q _ p s u x
noncomputable def cmpL (op : CmpOp) (a b : Value) : Sem Value := match op with
  | .NotEq => richL .NotEq a b
  | op => ZFast.zw12886488535604756494 op a b
theorem cmpL_ref (op : CmpOp) (a b : Value) : RefR (cmpL op a b) (compareOp op a b) := by
  cases op
  case NotEq => exact richL_ref .NotEq a b
  all_goals
    unfold cmpL
    dsimp only
    rw [← ZFast.ze12886488535604756494]
    exact RefR.rfl
theorem RefR.marked {op : CmpOp} {r : Expr} {t t' : Sem Value} (h : RefR t t') : RefR (markedBehindIn op r t) (markedBehindIn op r t') := by
  unfold markedBehindIn
  split
  · exact RefR.bind h fun _ => RefR.rfl
  · exact h
noncomputable abbrev evZ : Expr → Env → Sem Value := ZFast.zw14044960220447912780
theorem evZ_is (e : Expr) (env : Env) : evZ e env = eval e env := by
  unfold evZ
  rw [← ZFast.ze14044960220447912780]
/-- eval, with comparisons that do not ask for room -/
noncomputable def evalL : Nat → Expr → Env → Sem Value
  | 0, e, env => evZ e env
  | n + 1, e, env => match e with
    | .Compare l ops rs pos => match ops, rs with
      | [op], [r] => evZ l env >>= fun a => holding [a] (markedBehindIn op r (evalL n r env)) >>= fun b => standAt pos >>= fun _ => operate [a, b] (cmpL op a b)
      | _, _ => evZ e env
    | .BoolOp op vs pos => match vs with
      | [x, y] => boolOp pos op [evalL n x env, evalL n y env]
      | _ => evZ e env
    | _ => evZ e env
theorem RefR.boolOp2 {pos : Pos} {op : BoolOp} {x x' y y' : Sem Value} (h : RefR x x') (h' : RefR y y') : RefR (boolOp pos op [x, y]) (boolOp pos op [x', y']) := by
  show RefR (x >>= fun v => _) (x' >>= fun v => _)
  refine RefR.bind h fun v => RefR.bind RefR.rfl fun _ => RefR.bind RefR.rfl fun t => ?_
  cases op <;> cases t <;> first | exact RefR.rfl | exact h'
theorem evalL_ref : ∀ (n : Nat) (e : Expr) (env : Env), RefR (evalL n e env) (eval e env)
  | 0, e, env => by
    unfold evalL
    exact RefR.of_eq (evZ_is e env)
  | n + 1, e, env => by
    unfold evalL
    split
    · rename_i l ops rs pos
      split
      · rename_i op r
        rw [evZ_is, eval_Compare1]
        exact RefR.bind RefR.rfl fun a => RefR.bind (RefR.holding (RefR.marked (evalL_ref n r env))) fun b => RefR.bind RefR.rfl fun _ => RefR.operate (cmpL_ref op a b)
      · exact RefR.of_eq (evZ_is _ env)
    · rename_i op vs pos
      split
      · rename_i x y
        exact RefR.boolOp2 (evalL_ref n x env) (evalL_ref n y env)
      · exact RefR.of_eq (evZ_is _ env)
    · exact RefR.of_eq (evZ_is _ env)

noncomputable abbrev itZ : Expr → Env → Sem Value → Sem Bool := ZFast.zw15418851999007992765
theorem itZ_is (e : Expr) (env : Env) : itZ e env (evZ e env) = isTrue e env (eval e env) := by
  rw [evZ_is]
  unfold itZ
  rw [← ZFast.ze15418851999007992765]
noncomputable def isTrueL : Nat → Expr → Env → Sem Bool
  | 0, e, env => itZ e env (evZ e env)
  | n + 1, e, env => match e with
    | .Compare l ops rs pos => match ops, rs with
      | [op], [r] => evZ l env >>= fun a => holding [a] (markedBehindIn op r (evalL n r env)) >>= fun b => standAt pos >>= fun _ => operate [a, b] (cmpL op a b) >>= fun c => holding [c] (truthy c)
      | _, _ => itZ e env (evZ e env)
    | .BoolOp op vs _ => match vs with
      | [x, y] => match op with
        | .Or => isTrueL n x env >>= fun t => match t with
          | true => pure true
          | false => isTrueL n y env
        | .And => isTrueL n x env >>= fun t => match t with
          | false => pure false
          | true => isTrueL n y env
      | _ => itZ e env (evZ e env)
    | _ => itZ e env (evZ e env)
theorem wp_allTrue1 (op : BoolOp) (y : Expr) (env : Env) (M : Model) (Γ : PySem.Ctx) (Q : Bool → Pos → Shared → Prop) (E : Value → Pos → Shared → Prop) (p : Pos) (s : Shared) (h : Sem.wp M Γ (isTrue y env (eval y env)) Q E p s) : Sem.wp M Γ (allTrue op [y] env) Q E p s := by
  show Sem.wp M Γ (isTrue y env (eval y env) >>= fun t => _) Q E p s
  rw [Sem.wp_bind']
  refine Sem.wp_mono M Γ _ (fun t p' s' h' => ?_) (fun _ _ _ h' => h') p s h
  cases op <;> cases t <;> exact h'
theorem isTrueL_ref : ∀ (n : Nat) (e : Expr) (env : Env), RefR (isTrueL n e env) (isTrue e env (eval e env))
  | 0, e, env => by
    unfold isTrueL
    exact RefR.of_eq (itZ_is e env)
  | n + 1, e, env => by
    unfold isTrueL
    split
    · rename_i l ops rs pos
      split
      · rename_i op r
        rw [evZ_is, isTrue_Compare1]
        exact RefR.bind RefR.rfl fun a => RefR.bind (RefR.holding (RefR.marked (evalL_ref n r env))) fun b => RefR.bind RefR.rfl fun _ => RefR.bind (RefR.operate (cmpL_ref op a b)) fun c => RefR.rfl
      · exact RefR.of_eq (itZ_is _ env)
    · rename_i op vs pos
      split
      · rename_i x y
        split
        · show RefR _ (isTrue x env (eval x env) >>= fun t => _)
          refine RefR.bind (isTrueL_ref n x env) fun t => ?_
          cases t with
          | true => exact RefR.rfl
          | false => exact fun M Γ Q E p s u h => wp_allTrue1 .Or y env M Γ Q E p s (isTrueL_ref n y env M Γ Q E p s u h)
        · show RefR _ (isTrue x env (eval x env) >>= fun t => _)
          refine RefR.bind (isTrueL_ref n x env) fun t => ?_
          cases t with
          | false => exact RefR.rfl
          | true => exact fun M Γ Q E p s u h => wp_allTrue1 .And y env M Γ Q E p s (isTrueL_ref n y env M Γ Q E p s u h)
      · exact RefR.of_eq (itZ_is _ env)
    · exact RefR.of_eq (itZ_is _ env)
noncomputable abbrev exZ : List Stmt → Env → Sem Flow := ZFast.zw12563942051412417395
theorem exZ_is (l : List Stmt) (env : Env) : exZ l env = execs l env := by
  unfold exZ
  rw [← ZFast.ze12563942051412417395]
noncomputable def execL (st : Stmt) (env : Env) : Sem Flow := match st with
  | .Return v pos => match v with
    | some e => standAt pos >>= fun _ => evalL 3 e env >>= fun v => pure (.ret v)
    | none => exZ [st] env
  | .If test body orelse pos => standAt pos >>= fun _ => isTrueL 3 test env >>= fun t => match t with
    | true => exZ body env
    | false => exZ orelse env
  | _ => exZ [st] env
theorem exec1_ref (st : Stmt) (env : Env) : RefR (exZ [st] env) (exec st env) := by
  rw [exZ_is, execs_cons]
  intro M Γ Q E p s u h
  rw [Sem.wp_bind'] at h
  refine Sem.wp_mono M Γ _ (fun f p' s' h' => ?_) (fun _ _ _ h' => h') p s h
  cases f <;> exact h'
theorem execL_ref (st : Stmt) (env : Env) : RefR (execL st env) (exec st env) := by
  unfold execL
  split
  · rename_i v pos
    split
    · rename_i e
      rw [exec_Return_some]
      exact RefR.bind RefR.rfl fun _ => RefR.bind (evalL_ref 3 e env) fun _ => RefR.rfl
    · exact exec1_ref _ env
  · rename_i test body orelse pos
    rw [exec_If]
    refine RefR.bind RefR.rfl fun _ => RefR.bind (isTrueL_ref 3 test env) fun t => ?_
    cases t with
    | true => exact RefR.of_eq (exZ_is _ env)
    | false => exact RefR.of_eq (exZ_is _ env)
  · exact exec1_ref _ env
noncomputable def execsL : List Stmt → Env → Sem Flow
  | [], _ => pure .next
  | st :: rest, env => execL st env >>= fun f => match f with
    | .next => execsL rest env
    | f => pure f
theorem execsL_ref : ∀ (l : List Stmt) (env : Env), RefR (execsL l env) (execs l env)
  | [], env => RefR.rfl
  | st :: rest, env => by
    rw [execs_cons]
    unfold execsL
    refine RefR.bind (execL_ref st env) fun f => ?_
    cases f
    case next => exact execsL_ref rest env
    all_goals exact RefR.rfl

/-- one turn of a for loop, its body run without asking for room -/
noncomputable def turnL (target : Expr) (it : Value) (body orelse : List Stmt) (env : Env) : Sem Fin :=
  standAt target.pos >>= fun _ => (ZFast.zw9404975358583537561 it).onRaise (fun _ => standAt { target.pos with line := 0 }) >>= fun o => match o with
    | none => again (.block orelse env)
    | some v => letOwnedTupleGo target it v >>= fun _ => ZFast.zw17772580674575903948 target env v >>= fun _ => execsL body env >>= fun f => match f with
      | .next => again (.forLoop target it body orelse env)
      | .cont => again (.forLoop target it body orelse env)
      | .brk => pure (.done .next)
      | .ret v => pure (.done (.ret v))
theorem turnL_ref (target : Expr) (it : Value) (body orelse : List Stmt) (env : Env) : RefR (turnL target it body orelse env) (forTurn target it body orelse env) := by
  unfold turnL forTurn
  rw [← ZFast.ze9404975358583537561, ← ZFast.ze17772580674575903948]
  refine RefR.bind RefR.rfl fun _ => RefR.bind RefR.rfl fun o => ?_
  cases o with
  | none => exact RefR.rfl
  | some v =>
    refine RefR.bind RefR.rfl fun _ => RefR.bind RefR.rfl fun _ => RefR.bind (execsL_ref body env) fun f => ?_
    cases f <;> exact RefR.rfl
end Mine

namespace Mine
open PySem PySem.Spec PySem.Calls PyProof.Rows PySem.W PySem.W.X

/-- the bodies in which lists are compared -/
noncomputable def mineB : List Stmt → Bool
  | [] => false
  | st :: r => match st with
    | .Return v _ => match v with
      | some e => match e with
        | .Compare _ _ _ _ => true
        | .BoolOp _ _ _ => true
        | _ => mineB r
      | none => mineB r
    | .If t _ _ _ => match t with
      | .BoolOp _ _ _ => true
      | _ => mineB r
    | _ => mineB r
noncomputable def den1 (c : Code) : Sem Fin := match c with
  | .func body env => match mineB body with
    | true => point >>= fun _ => (execsL body env).onRaise (leaving env) >>= fun f => match f with
      | .ret v => ret v
      | _ => ret .none
    | false => den0 (.func body env)
  | .forLoop target it body orelse env => match mineB body with
    | true => (turnL target it body orelse env).onRaise (fun x => do noteFrame x env; theTreesLotGoes x)
    | false => den0 (.forLoop target it body orelse env)
  | c => den0 c
theorem den1_ref (c : Code) : RefR (den1 c) (denote table c) := by
  unfold den1
  split
  · rename_i body env
    split
    · refine RefR.bind RefR.rfl fun _ => RefR.bind (RefR.onRaise (execsL_ref body env)) fun f => ?_
      cases f <;> exact RefR.rfl
    · exact RefR.of_eq (congrFun den0_is _)
  · rename_i target it body orelse env
    split
    · exact RefR.onRaise (turnL_ref target it body orelse env)
    · exact RefR.of_eq (congrFun den0_is _)
  · exact RefR.of_eq (congrFun den0_is _)
theorem den1_own {prog : Program} {w : World} (A : Around) (c : Code) (Q : Fin → Shared → Prop) (E : Value → Shared → Prop) (s : Shared) (hu : A.units + 10 < 9900)
    (h : wpOwn (model prog w) A c (den1 c) Q E s) : wpOwn (model prog w) A c (denote table c) Q E s := fun Γ p hc hΓ => by
  refine den1_ref c (model prog w) Γ _ _ p s ?_ (h Γ p hc hΓ)
  have h1 := hΓ.in.2.2.2.2
  have h2 : (A.under Γ.code).units = A.units + Γ.code.cUnits := rfl
  have h3 := units_le Γ.code
  have h4 : cLine = 9900 := rfl
  omega
end Mine

namespace Mine
open PySem PySem.Spec PySem.Calls PyProof.Rows PySem.W PySem.W.X

noncomputable def kt0 (P : Params) : KT := kdel (hdz.ktop_568 P) 250
noncomputable abbrev pw0 : Program := PySem.Challenge.pw_pg0277_01
noncomputable def SC0 (P : Params) (b1 b2 : Bool) (rules : List RuleD) (p : Nat) : SC := ⟨den1, callZ, quiet0, pw0, pat P b1 b2, kt0 P, rules, p⟩

noncomputable def strKeyed2 (o : Option Obj) : Bool := match o with
  | some ⟨_, _, .dict es _, _⟩ => (es.toList.all fun e => match e.key with | .str .. => true | _ => false) && (nsFind es (Str.mk (Array.mk [115, 121, 115, 46, 114, 101, 99, 117, 114, 115, 105, 111, 110, 108, 105, 109, 105, 116]))).isNone
  | _ => false
theorem statics_ok (P : Params) : strKeyed2 ((kt0 P).get cStatics) = true := by kernel_rfl
theorem nolimit0 (P : Params) (h : Heap) (H : ∀ b o, (kt0 P).get b = some o → h.get? b = some o) : h.NoLimit := by
  have z := statics_ok P
  have e1 : (Str.mk (Array.mk [115, 121, 115, 46, 114, 101, 99, 117, 114, 115, 105, 111, 110, 108, 105, 109, 105, 116])) = Str.ofString "sys.recursionlimit" := by decide +kernel
  unfold strKeyed2 at z
  split at z
  · rename_i c d es ep sl e
    obtain ⟨z1, z2⟩ := Bool.and_eq_true_iff.mp z
    refine ⟨nsFind es, ⟨_, es, ep, H _ _ e, rfl, fun x hx => ?_, fun _ => rfl⟩, ?_⟩
    · have q := List.all_eq_true.mp z1 x (by simpa using hx)
      split at q
      · rename_i n t ek
        exact ⟨n, t, ek⟩
      · cases q
    · rw [e1] at z2
      exact Option.isNone_iff_eq_none.mp z2
  · cases z
theorem size0 (P : Params) (h : Heap) (H : ∀ b o, (kt0 P).get b = some o → h.get? b = some o) : 16 ≤ h.objs.size := by
  have z : ((kt0 P).get 94).isSome = true := by kernel_rfl
  cases q : (kt0 P).get 94 with
  | none => rw [q] at z; cases z
  | some o =>
    have e := H _ _ q
    unfold Heap.get? at e
    cases q2 : h.objs[94]? with
    | none => rw [q2] at e; cases e
    | some x =>
      have := (Array.getElem?_eq_some_iff.mp q2).1
      omega
/-- the objects that stand as the top left them -/
noncomputable def ko (P : Params) : Addr → Obj → Prop := fun b o => (kt0 P).get b = some o
theorem SC0_ok (w : World) (b1 b2 : Bool) (rules : List RuleD) (p : Nat) (hb : w.params = pat w.params b1 b2) : (SC0 w.params b1 b2 rules p).Ok w :=
  ⟨fun A c Q E s _ hu h => den1_own A c Q E s hu h, callZ_is, quiet0_is, hb.symm, nolimit0 w.params, size0 w.params⟩

theorem insAll_get : ∀ (l : List (Addr × Obj)) (T : LT) (m : Nat), Full T m → (∀ i, (insAll T m l).get i = if i < m then T.get i else l[i - m]?) ∧ Full (insAll T m l) (m + l.length)
  | [], T, m, F => ⟨fun i => by
      unfold insAll
      by_cases h : i < m
      · rw [if_pos h]
      · rw [if_neg h]
        cases q : T.get i with
        | none => simp
        | some x => exact absurd ((F i).mp (by rw [q]; rfl)) h, F⟩
  | x :: l, T, m, F => by
    unfold insAll
    obtain ⟨h1, h2⟩ := insAll_get l (T.ins m x) (m + 1) (F.ins x)
    refine ⟨fun i => ?_, by rw [List.length_cons, show m + (l.length + 1) = m + 1 + l.length from by omega]; exact h2⟩
    rw [h1, TT.get_ins x T m (full_ins x T m F)]
    by_cases h : i < m
    · rw [if_pos (by omega), if_neg (by omega), if_pos h]
    · by_cases q : i = m
      · subst q; simp
      · rw [if_neg (by omega), if_neg h, show i - m = (i - (m + 1)) + 1 from by omega, List.getElem?_cons_succ]
theorem full_nil : Full (.nil : LT) 0 := fun i => by simp [TT.get]
noncomputable def mkT (pre : List (Addr × Obj)) : LT := insAll .nil 0 pre
theorem mkT_get (pre : List (Addr × Obj)) (i : Nat) : (mkT pre).get i = pre[i]? := by
  unfold mkT
  rw [(insAll_get pre .nil 0 full_nil).1]
  simp
theorem inv_start {prog : Program} {w : World} {kt : Addr → Obj → Prop} {A : Around} {R : Result → Shared → Prop} {s : Shared} {pre : List (Addr × Obj)} (H : Start kt s.heap pre) :
    Inv pre.length ⟨prog, w, kt, pre.map (·.1), s.heap, A, R, s.gens, s.drawn, s.os⟩ s.heap (mkT pre) pre.length s.heap.objs.size := by
  refine ⟨⟨rfl, H.old, fun i a o e => ?_, fun i j a o o' e1 e2 => ?_, fun b o e _ => e, fun i a o e => ?_, fun a ha => ?_⟩, ?_, by simp, fun k a e => ?_⟩
  · rw [mkT_get] at e
    exact H.own _ (List.mem_of_getElem? e)
  · rw [mkT_get] at e1 e2
    obtain ⟨l1, e1⟩ := List.getElem?_eq_some_iff.mp e1
    obtain ⟨l2, e2⟩ := List.getElem?_eq_some_iff.mp e2
    have nd := List.nodup_iff_pairwise_ne.mp H.nd
    rw [List.pairwise_iff_getElem] at nd
    rcases Nat.lt_trichotomy i j with h | h | h
    · exact absurd (by rw [List.getElem_map, List.getElem_map, e1, e2]) (nd i j (by simpa using l1) (by simpa using l2) h)
    · exact h
    · exact absurd (by rw [List.getElem_map, List.getElem_map, e1, e2]) (nd j i (by simpa using l2) (by simpa using l1) h)
  · rw [mkT_get] at e
    exact .inl (List.mem_map.mpr ⟨_, List.mem_of_getElem? e, rfl⟩)
  · obtain ⟨x, hx, rfl⟩ := List.mem_map.mp ha
    obtain ⟨i, hi, e⟩ := List.getElem_of_mem hx
    exact ⟨i, x.2, by rw [mkT_get, List.getElem?_eq_getElem hi, e]⟩
  · have := (insAll_get pre .nil 0 full_nil).2
    rw [Nat.zero_add] at this
    exact this
  · simp only [List.getElem?_map] at e
    cases q : pre[k]? with
    | none => rw [q] at e; cases e
    | some x =>
      rw [q] at e
      cases e
      exact ⟨x.2, by rw [mkT_get, q]⟩
noncomputable def outOf (P : Params) (b1 b2 : Bool) (rules : List RuleD) (c : Code) (D U : Nat) (pre : List (Addr × Obj)) (N tk : Nat) (tags : Tg) : Out :=
  codeS (SC0 P b1 b2 rules pre.length) (sim2 (SC0 P b1 b2 rules pre.length) 1000000) c .base D U (mkT pre) pre.length (Nat.add N 16) tk tags
noncomputable def chkOf (P : Params) (b1 b2 : Bool) (rules : List RuleD) (c : Code) (D U : Nat) (pre : List (Addr × Obj)) (N tk : Nat) (tags : Tg) (sp : Spec) : Chk :=
  go (outOf P b1 b2 rules c D U pre N tk tags) sp
theorem spec_ofK (w : World) (kt : Addr → Obj → Prop) (hkt : ∀ b o, ko w.params b o → kt b o) {rules : List RuleD} (hr : ∀ r ∈ rules, RuleD.Ok pw0 w kt r) {c : Code} {D U : Nat} {pre : List (Addr × Obj)} {tags : Tg} {sp : Spec}
    (chk : ∀ b1 b2 N tk, (chkOf w.params b1 b2 rules c D U pre N tk tags sp).lhs = (chkOf w.params b1 b2 rules c D U pre N tk tags sp).rhs) : CodeSpec pw0 w (kt) D U c pre sp := by
  intro A R s hA hD hU H hw
  have hb := pat_is w.params
  have O := SC0_ok w (w.params.followText "special-get-raises") (w.params.followText "comprehension-iter-twice") rules pre.length hb
  have g := Chk.good _ (chk (w.params.followText "special-get-raises") (w.params.followText "comprehension-iter-twice") (s.heap.objs.size - 16) s.toks)
  have hsz : Nat.add (s.heap.objs.size - 16) 16 = s.heap.objs.size := Nat.sub_add_cancel (O.size _ fun b o e => H.old b o (hkt b o e))
  unfold chkOf outOf at g
  rw [hsz] at g
  have I : Inv pre.length ⟨pw0, w, kt, pre.map (fun x : Addr × Obj => x.1), s.heap, A, R, s.gens, s.drawn, s.os⟩ s.heap (mkT pre) pre.length s.heap.objs.size := inv_start H
  have SS := sim_sound2 (S := SC0 w.params (w.params.followText "special-get-raises") (w.params.followText "comprehension-iter-twice") rules pre.length) (V := ⟨pw0, w, kt, pre.map (fun x : Addr × Obj => x.1), s.heap, A, R, s.gens, s.drawn, s.os⟩) O rfl hkt hr 1000000
  exact code_sound (V := ⟨pw0, w, kt, pre.map (fun x : Addr × Obj => x.1), s.heap, A, R, s.gens, s.drawn, s.os⟩) O rfl hkt hr SS (κ := .base) g hw ⟨I, ⟨hA, hD, hU⟩, trivial⟩
theorem spec_of (w : World) {rules : List RuleD} (hr : ∀ r ∈ rules, RuleD.Ok pw0 w (ko w.params) r) {c : Code} {D U : Nat} {pre : List (Addr × Obj)} {tags : Tg} {sp : Spec}
    (chk : ∀ b1 b2 N tk, (chkOf w.params b1 b2 rules c D U pre N tk tags sp).lhs = (chkOf w.params b1 b2 rules c D U pre N tk tags sp).rhs) : CodeSpec pw0 w (ko w.params) D U c pre sp :=
  spec_ofK w _ (fun _ _ e => e) hr chk
noncomputable def gl (t : Tg) : List Nat → Tg
  | [] => t
  | n :: l => .cons n (gl t l)
noncomputable abbrev g0 : Tg := .nil
noncomputable abbrev gf (l r : Tg) : Tg := .fork l r
end Mine

namespace Mine
open PySem PySem.Spec PySem.Calls PyProof.Rows PySem.W PySem.W.X

theorem ends_same {kt : Addr → Obj → Prop} {h : Heap} {pre : List (Addr × Obj)} {e : End} (H : Start kt h pre) : Ends kt (pre.map (·.1)) h h ⟨e, pre.map (·.2), []⟩ :=
  ⟨H.old, by simp, fun k a o e1 e2 => by
    rw [List.getElem?_map] at e1 e2
    cases q : pre[k]? with
    | none => rw [q] at e1; cases e1
    | some x =>
      rw [q] at e1 e2
      cases e1; cases e2
      exact (H.own x (List.mem_of_getElem? q)).1, fun _ hx => (nomatch hx), List.nodup_nil, fun _ _ e _ => e⟩
theorem ends_update1 {kt : Addr → Obj → Prop} {h : Heap} {l : Addr} {o : Obj} {f : Obj → Obj} {e : End} (H : Start kt h [(l, o)]) (hf : (f o).isFreed = false) : Ends kt [l] h (h.update l f) ⟨e, [f o], []⟩ := by
  have y := H.own _ List.mem_cons_self
  have hs : Heap.SameBut l h (h.update l f) := Heap.SameBut.update ..
  refine ⟨fun b ob eb => (hs.2 b ?_).trans (H.old b ob eb), rfl, fun k a ob e1 e2 => ?_, fun _ hx => (nomatch hx), List.nodup_nil, fun b ob eb hb => (hs.2 b ?_).trans eb⟩
  · rintro rfl; exact y.2 _ eb
  · cases k with
    | zero =>
      simp only [List.getElem?_cons_zero, Option.some.injEq] at e1 e2
      subst e1; subst e2
      first | exact Heap.get?_update_self f y.1 hf | exact Heap.get?_update_self _ y.1 hf
    | succ k => simp at e1
  · simpa using hb
/-- a code's name -/
noncomputable def idOf (c : Code) : String := match c with
  | .builtin id _ => id
  | .call f _ => match f with
    | .builtin id => id
    | _ => ""
  | _ => ""
noncomputable def argsOf (c : Code) : Args := match c with
  | .builtin _ a => a
  | .call _ a => a
  | _ => {}
theorem eqLit_is {n : Nat} {t : String} (b : String) (hn : PySem.code b = n) (h : S.eqLit n t = true) : t = b := by
  rw [← congrFun (S.eqLit_eq b n hn) t] at h
  exact eq_of_beq h
noncomputable def ifId (n : Nat) (c : Code) (sp : Spec) : Spec := match S.eqLit n (idOf c) with
  | true => sp
  | false => .stop 202
/-- the list of a written object -/
noncomputable def itemsOf (o : Obj) : List Value := match o with
  | ⟨_, _, .seq xs _, _⟩ => xs.toList
  | _ => []
noncomputable def epOf (o : Obj) : Nat := match o with
  | ⟨_, _, .seq _ n, _⟩ => n
  | _ => 0
noncomputable def plainB (n : Nat) (o : Obj) : Bool := match o with
  | ⟨.type t, .none, _, sl⟩ => match sl.toList with
    | [] => S.eqLit n t
    | _ :: _ => false
  | _ => false
noncomputable def seqB (o : Obj) : Bool := match o with
  | ⟨_, _, .seq _ _, _⟩ => true
  | _ => false
/-- the same object with other items -/
noncomputable def withItems (o : Obj) (l : List Value) (n : Nat) : Obj := { o with data := .seq (Array.mk l) n }
theorem list_is {n : Nat} {t : String} (hn : PySem.code t = n) {o : Obj} (h1 : plainB n o = true) (h2 : seqB o = true) : o = { cls := .type t, dict := none, data := .seq (Array.mk (itemsOf o)) (epOf o), slots := #[] } := by
  obtain ⟨c, d, dt, sl⟩ := o
  unfold plainB at h1
  split at h1
  · rename_i t' d' sl' e
    cases e
    split at h1
    · rename_i es
      have := eqLit_is t hn h1
      subst this
      have : sl = #[] := Array.ext' es
      subst this
      unfold seqB at h2
      split at h2
      · rename_i xs m sl e
        cases e
        rfl
      · cases h2
    · cases h1
  · cases h1
noncomputable def ifList (o : Obj) (sp : Spec) : Spec := match plainB 1970563693 o with
  | true => match seqB o with
    | true => sp
    | false => .stop 203
  | false => .stop 204
noncomputable def popL : List Value → Nat → Option (Value × List Value)
  | [], _ => none
  | x :: r, k => match k with
    | 0 => some (x, r)
    | k + 1 => match popL r k with
      | some (y, q) => some (y, x :: q)
      | none => none
theorem popL_spec : ∀ {l q : List Value} {k : Nat} {y : Value}, popL l k = some (y, q) → l[k]? = some y ∧ q = l.eraseIdx k ∧ k < l.length
  | [], _, k, _, h => by cases h
  | x :: r, q, 0, y, h => by cases h; simp
  | x :: r, q, k + 1, y, h => by
    unfold popL at h
    dsimp only at h
    cases e : popL r k with
    | none => rw [e] at h; cases h
    | some z =>
      rw [e] at h
      cases h
      obtain ⟨h1, h2, h3⟩ := popL_spec e
      exact ⟨by simpa using h1, by simp [h2], by simpa using h3⟩
noncomputable def intOf (v : Option Value) : Int := match v with
  | some (.int i _) => i
  | _ => 0
noncomputable def tokOf (v : Option Value) : Tok := match v with
  | some (.int _ u) => u
  | _ => 0
noncomputable def argI (c : Code) (k : Nat) : Int := intOf ((argsOf c).pos[k]?)
noncomputable def argT (c : Code) (k : Nat) : Tok := tokOf ((argsOf c).pos[k]?)
noncomputable def ad0 (es : List (Addr × Obj)) : Addr := match es with
  | x :: _ => x.1
  | [] => 0
noncomputable def ob0 (es : List (Addr × Obj)) : Obj := match es with
  | x :: _ => x.2
  | [] => default
theorem meets_use {t : Sem Fin} {T : PySem.Spec} (M : Meets t T) (prog : Program) (w : World) (A : Around) (R : Result → Shared → Prop) (s : Shared) (h : T A R s) :
    wpAny (model prog w) A.in1 t (fun fin s' => match fin with | .done f => R (.ok f) s' | .again c' => c'.quiet = true ∧ codeAny (model prog w) A c' R s') (fun e s' => R (.error e) s') s := M prog w A R s h
/-- list.pop at a written place -/
noncomputable def rPop : RuleD where
  D := 900
  U := 9000
  code c es := .builtin (idOf c) ⟨[.ref (ad0 es), .int (Int.ofNat (argI c 1).toNat) (argT c 1)], []⟩
  objs _ es := [(ad0 es, ob0 es)]
  spec c es := ifId 8174157772325415533 c (ifList (ob0 es) (match popL (itemsOf (ob0 es)) (argI c 1).toNat with
    | some (y, q) => .need ((itemsOf (ob0 es)).length ≤ 1000) (.leaf (fun _ => []) (fun _ => ⟨.res (.ok (.ret y)), [withItems (ob0 es) q (epOf (ob0 es) + 1)], []⟩))
    | none => .stop 201))
theorem rPop_ok (prog : Program) (w : World) (kt : Addr → Obj → Prop) : RuleD.Ok prog w kt rPop := by
  intro c es he A R s hA hD hU H hw
  unfold rPop ifId ifList at hw ⊢
  dsimp only at hw ⊢
  split at hw
  · rename_i hid
    have hid := eqLit_is "list.pop" (by decide +kernel) hid
    split at hw
    · rename_i h1
      split at hw
      · rename_i h2
        have ho := list_is (t := "list") (by decide +kernel) h1 h2
        split at hw
        · rename_i y q hq
          obtain ⟨hn, hw⟩ := hw
          obtain ⟨p1, p2, p3⟩ := popL_spec hq
          rw [hid]
          refine codeAny_builtin PySem.F.entry_list_pop ?_
          rw [Around.under_plainId (by decide +kernel) _]
          have hes : es = [(ad0 es, ob0 es)] := he
          have st := H
          rw [hes] at st
          generalize (argI c 1).toNat = k at *
          generalize ob0 es = o at *
          generalize ad0 es = a at *
          have hk : seqIndex? (Int.ofNat k) (Array.mk (itemsOf o)).size = some k := by
            show seqIndex? (Int.ofNat k) (itemsOf o).length = some k
            unfold seqIndex?
            rw [show Int.ofNat k = (k : Int) from rfl]
            have h1 : ¬ ((k : Int) < 0) := by omega
            rw [if_neg h1]
            have h2 : (decide (0 ≤ (k : Int)) && decide ((k : Int) < ((itemsOf o).length : Int))) = true := by
              rw [Bool.and_eq_true]; constructor <;> (rw [decide_eq_true_eq]; omega)
            rw [if_pos h2]
            rfl
          have hfit : Builtin.List.listFitsIndex (Int.ofNat k) = true := by
            unfold Builtin.List.listFitsIndex
            rw [show Int.ofNat k = (k : Int) from rfl, Bool.and_eq_true]; constructor <;> (rw [decide_eq_true_eq]; omega)
          have hsz : (Array.mk (itemsOf o)).size ≤ sizeLine := by
            show (itemsOf o).length ≤ sizeLine
            rw [sizeLine_eq]; omega
          have hy : (Array.mk (itemsOf o))[k]? = some y := by simpa using p1
          generalize Int.ofNat k = i at *
          have M := @MeetsSeq.list_pop_at a (Array.mk (itemsOf o)) (epOf o) i (argT c 1) k y hfit hk hy hsz
          refine meets_use M prog w A R s (And.intro ?_ ?_)
          · rw [← ho]; exact (st.own _ List.mem_cons_self).1
          · have e := ends_update1 (e := .res (.ok (.ret y))) (f := Obj.mapSeq fun xs => xs.eraseIdxIfInBounds k) st (by rw [ho]; rfl)
            have ef : Obj.mapSeq (fun xs => xs.eraseIdxIfInBounds k) o = withItems o q (epOf o + 1) := by
              rw [ho]
              unfold withItems Obj.mapSeq
              have e1 : (Array.mk (itemsOf o)).eraseIdxIfInBounds k = Array.mk q := by
                unfold Array.eraseIdxIfInBounds
                rw [dif_pos (by exact p3)]
                apply Array.toList_inj.mp
                rw [Array.toList_eraseIdx, p2]
              dsimp only
              rw [e1]
              have : (q.length == (itemsOf o).length) = false := by
                rw [p2, List.length_eraseIdx, if_pos p3, beq_eq_false_iff_ne]
                omega
              show ({ cls := _, dict := _, data := .seq _ (if (q.length == (itemsOf o).length) then _ else _), slots := _ } : Obj) = _
              rw [this]
              rfl
            rw [ef] at e
            exact hw [] _ s.toks (by rw [hes]; exact e)
        · cases hw
      · cases hw
    · cases hw
  · cases hw
noncomputable def rLen : RuleD where
  D := 900
  U := 9000
  code c es := .builtin (idOf c) ⟨[.ref (ad0 es)], []⟩
  objs _ es := [(ad0 es, ob0 es)]
  spec c es := ifId 7300717 c (ifList (ob0 es) (.need ((itemsOf (ob0 es)).length ≤ 1000) (.leaf (fun _ => []) (fun ws => ⟨.res (.ok (.ret (.int (Int.ofNat (itemsOf (ob0 es)).length) (ws.getD 0 0)))), [ob0 es], []⟩))))
theorem rLen_ok (prog : Program) (w : World) (kt : Addr → Obj → Prop) : RuleD.Ok prog w kt rLen := by
  intro c es he A R s hA hD hU H hw
  unfold rLen ifId ifList at hw ⊢
  dsimp only at hw ⊢
  split at hw
  · rename_i hid
    have hid := eqLit_is "len" (by decide +kernel) hid
    split at hw
    · rename_i h1
      split at hw
      · rename_i h2
        have ho := list_is (t := "list") (by decide +kernel) h1 h2
        obtain ⟨hn, hw⟩ := hw
        rw [hid]
        refine codeAny_builtin entry_len ?_
        rw [Around.under_plainId plain_len _]
        have hes : es = [(ad0 es, ob0 es)] := he
        have st := H
        rw [hes] at st
        generalize ob0 es = o at *
        generalize ad0 es = l at *
        have hg := (st.own _ List.mem_cons_self).1
        have hg : s.heap.get? l = some o := hg
        have hl : s.heap.IsList l (Array.mk (itemsOf o)) := ⟨o, hg, by rw [ho], epOf o, by rw [ho]; rfl⟩
        refine wpAny_mono (Q := fun fin s' => ∃ v, fin = .done (.ret v) ∧ v = .int (Int.ofNat (itemsOf o).length) (s.toks + 1) ∧ s' = { s with toks := s.toks + 1 + 1 }) ?_ (fun fin s' h => ?_) (fun _ _ h => h)
        · unfold Builtin.«len»
          refine wpAny_bind (m := oneArg "len" _) (wpAny_pure ?_)
          refine wpAny_bind (m := callSpecial? (.ref l) (Str.ofString "__len__")) (wpAny_callSpecial?_slot (name := Str.ofString "__len__") hl.typeIs slot_list_len
            (wpAny_call_entry slot_list_len hl.typeIs entry_list_len ?_ (args_list_len _)))
          show wpAny _ _ (do retInt (← seqSize l)) _ _ s
          unfold seqSize
          refine wpAny_bind (wpAny_bind (wpAny_load hg ?_))
          rw [show o.data = .seq (Array.mk (itemsOf o)) (epOf o) from by rw [ho]; rfl]
          refine wpAny_pure (wpAny_bind (wpAny_mkInt (wpAny_pure ⟨_, rfl, ?_⟩)))
          refine wpAny_bind (wpAny_holding (wpAny_pure ?_))
          refine wpAny_bind (wpAny_letGo ?_)
          show wpAny _ _ (if (((itemsOf o).length : Nat) : Int) < 0 then _ else _) _ _ _
          rw [if_neg (by omega)]
          show wpAny _ _ (if (((itemsOf o).length : Nat) : Int) ≥ 2 ^ 63 then _ else _) _ _ _
          rw [if_neg (by omega)]
          exact wpAny_bind (wpAny_mkInt (wpAny_pure ⟨_, rfl, rfl, rfl⟩))
        · obtain ⟨v, rfl, rfl, rfl⟩ := h
          exact hw [s.toks + 1] s.heap (s.toks + 1 + 1) (by rw [hes]; exact ends_same st)
      · cases hw
    · cases hw
  · cases hw
end Mine

namespace Mine
open PySem PySem.Spec PySem.Calls PyProof.Rows PySem.W PySem.W.X

noncomputable def argS (c : Code) (k : Nat) : Str := match (argsOf c).pos[k]? with
  | some (.str x _) => x
  | _ => default
noncomputable def argST (c : Code) (k : Nat) : Tok := match (argsOf c).pos[k]? with
  | some (.str _ t) => t
  | _ => 0
theorem code_of_gives {prog : Program} {w : World} {A : Around} {R : Result → Shared → Prop} {s : Shared} {id : String} {args : Args} {b : Builtin} {m : Made} (entry : entryFor table id = some b) (plain : plainId id = true) (g : Gives (b args) m)
    (h : m.post (fun v s' => R (.ok (.ret v)) s') s) : codeAny (model prog w) A (.builtin id args) R s := by
  refine codeAny_builtin entry ?_
  rw [Around.under_plainId plain _]
  exact meets_use g.meets prog w A R s h
theorem ends_nil {kt : Addr → Obj → Prop} {h : Heap} {e : End} (H : Start kt h []) : Ends kt [] h h ⟨e, [], []⟩ := ends_same H
noncomputable def rAdd : RuleD where
  D := 900
  U := 9000
  code c _ := .builtin (idOf c) ⟨[.str (argS c 0) (argST c 0), .str (argS c 1) (argST c 1)], []⟩
  objs _ _ := []
  spec c _ := ifId 116512096292018843154609524 c (.need ((argS c 0).length + (argS c 1).length ≤ 1000) (.leaf (fun _ => []) (fun ws => ⟨.res (.ok (.ret (.str (argS c 0 ++ argS c 1) (ws.getD 0 0)))), [], []⟩)))
theorem rAdd_ok (prog : Program) (w : World) (kt : Addr → Obj → Prop) : RuleD.Ok prog w kt rAdd := by
  intro c es he A R s hA hD hU H hw
  unfold rAdd ifId at hw ⊢
  dsimp only at hw ⊢
  have he : es = [] := he
  subst he
  split at hw
  · rename_i hid
    have hid := eqLit_is "str.__add__" (by decide +kernel) hid
    obtain ⟨hn, hw⟩ := hw
    rw [hid]
    generalize argS c 0 = x at *
    generalize argS c 1 = y at *
    refine code_of_gives PySem.F.entry_str_add (by decide +kernel) (gives_str_add x y (argST c 0) (argST c 1)) ?_
    split
    · rename_i hx
      have : x ++ y = y := by
        have hx : x.length = 0 := by simpa using hx
        apply Str.ext'
        rw [Str.cps_append]
        have : x.cps = #[] := Array.eq_empty_of_size_eq_zero hx
        rw [this]; simp
      have z := hw [argST c 1] s.heap s.toks (ends_nil H)
      rw [this] at z
      exact z
    · split
      · rename_i hy
        have : x ++ y = x := by
          have hy : y.length = 0 := by simpa using hy
          apply Str.ext'
          rw [Str.cps_append]
          have : y.cps = #[] := Array.eq_empty_of_size_eq_zero hy
          rw [this]; simp
        have z := hw [argST c 0] s.heap s.toks (ends_nil H)
        rw [this] at z
        exact z
      · refine ⟨?_, hw [s.toks] s.heap (s.toks + 1) (ends_nil H)⟩
        rw [Str.length_append, sizeLine_eq]; omega
  · cases hw
noncomputable def rLt : RuleD where
  D := 950
  U := 9000
  code c _ := .builtin (idOf c) ⟨[.int (argI c 0) (argT c 0), .int (argI c 1) (argT c 1)], []⟩
  objs _ _ := []
  spec c _ := ifId 455126531311803185852266 c (.ask (decide (argI c 0 < argI c 1)) (.leaf (fun _ => []) (fun _ => ⟨.res (.ok (.ret (.bool true))), [], []⟩)) (.leaf (fun _ => []) (fun _ => ⟨.res (.ok (.ret (.bool false))), [], []⟩)))
theorem rLt_ok (prog : Program) (w : World) (kt : Addr → Obj → Prop) : RuleD.Ok prog w kt rLt := by
  intro c es he A R s hA hD hU H hw
  unfold rLt ifId at hw ⊢
  dsimp only at hw ⊢
  have he : es = [] := he
  subst he
  split at hw
  · rename_i hid
    have hid := eqLit_is "int.__lt__" (by decide +kernel) hid
    rw [hid]
    generalize argI c 0 = x at *
    generalize argI c 1 = y at *
    refine code_of_gives PySem.F.entry_int_lt (by decide +kernel) (gives_int_lt x y (argT c 0) (argT c 1)) ?_
    cases q : decide (x < y) with
    | true => exact hw.1 q [] s.heap s.toks (ends_nil H)
    | false => exact hw.2 q [] s.heap s.toks (ends_nil H)
  · cases hw
end Mine

namespace Mine
open PySem PySem.Spec PySem.Calls PyProof.Rows PySem.W PySem.W.X

noncomputable def sl (l : List Nat) : Str := Str.mk (Array.mk l)
noncomputable def fdOf (o : Option Obj) : FuncData := match o with
  | some ⟨_, _, .func fd, _⟩ => fd
  | _ => default
noncomputable def stmtsOf (b : FuncBody) : List Stmt := match b with
  | .stmts l => l
  | _ => []
noncomputable def nth (l : List Stmt) : Nat → Stmt
  | 0 => match l with
    | x :: _ => x
    | [] => default
  | k + 1 => match l with
    | _ :: r => nth r k
    | [] => default
noncomputable def defName (s : Stmt) : Str := match s with
  | .FunctionDef n _ _ _ _ _ _ _ _ _ => n
  | _ => default
noncomputable def defArgs (s : Stmt) : Arguments := match s with
  | .FunctionDef _ a _ _ _ _ _ _ _ _ => a
  | _ => default
noncomputable def defBody (s : Stmt) : List Stmt := match s with
  | .FunctionDef _ _ b _ _ _ _ _ _ _ => b
  | _ => []
noncomputable def defScope (s : Stmt) : Scope := match s with
  | .FunctionDef _ _ _ _ _ _ sc _ _ _ => sc
  | _ => default
noncomputable def lst0 : Stmt := .Pass default
/-- _law_next's def, as it stands in the text -/
noncomputable def nextS (P : Params) : Stmt := nth (stmtsOf (fdOf ((hdz.ktop_568 P).get 255)).body) 2
structure LX where
  al : Addr
  ald : Addr
  as : Addr
  asd : Addr
  af : Addr
  ac : Addr
  acl : Addr
  aleft : Addr
  act : Addr
  apb : Addr
  apb0 : Addr
  h : Nat → Int
  t : Nat → Tok
  v : Nat → Value
  vr : List Value
noncomputable def oInst (d : Addr) : Obj := { cls := .ref 94, dict := some d }
noncomputable def dictO (l : List DictEntry) (n : Nat) : Obj := { cls := .type "dict", data := .dict (Array.mk l) n }
noncomputable def oLexD (x : LX) (ln : Int) : Obj := dictO [⟨x.h 0, .str (sl [108, 105, 110, 101, 110, 111]) (x.t 0), .int ln (x.t 1)⟩, ⟨x.h 1, .str (sl [105, 110, 115, 116, 114, 101, 97, 109]) (x.t 2), .ref x.as⟩, ⟨x.h 2, .str (sl [119, 104, 105, 116, 101, 115, 112, 97, 99, 101]) (x.t 3), .str (sl [10, 9, 13, 32]) (x.t 4)⟩, ⟨x.h 3, .str (sl [112, 117, 115, 104, 98, 97, 99, 107]) (x.t 5), .ref x.apb⟩] 4
noncomputable def oStrD (x : LX) : Obj := dictO [⟨x.h 4, .str (sl [108, 105, 110, 101, 110, 111]) (x.t 6), .int 1 (x.t 7)⟩, ⟨x.h 5, .str (sl [105, 110, 115, 116, 114, 101, 97, 109]) (x.t 8), .none⟩, ⟨x.h 6, .str (sl [119, 104, 105, 116, 101, 115, 112, 97, 99, 101]) (x.t 9), .str (sl [10, 9, 13, 32]) (x.t 10)⟩, ⟨x.h 7, .str (sl [112, 117, 115, 104, 98, 97, 99, 107]) (x.t 11), .ref x.apb0⟩, ⟨x.h 8, .str (sl [114, 101, 97, 100]) (x.t 12), .ref x.af⟩] 5
noncomputable def fdNext (P : Params) (x : LX) : FuncData := { name := (sl [95, 108, 97, 119, 95, 110, 101, 120, 116]), qualname := (sl [95, 108, 97, 119, 95, 108, 101, 120, 101, 114, 46, 60, 108, 111, 99, 97, 108, 115, 62, 46, 95, 108, 97, 119, 95, 110, 101, 120, 116]), params := defArgs (nextS P), body := .stmts (defBody (nextS P)), scope := defScope (nextS P), globals := 3, closure := [((sl [108, 101, 102, 116]), x.acl)], defaults := .none, kwdefaults := .none, doc := .none, pyModule := x.v 0, annotations := none, code := .ref x.ac, closureTuple := .ref x.act, builtins := 0 }
noncomputable def oNext (P : Params) (x : LX) : Obj := { cls := .type "function", data := .func (fdNext P x) }
noncomputable def oCode (x : LX) : Obj := { cls := .type "code", data := .fields (Array.mk (x.v 1 :: .str (sl [95, 108, 97, 119, 95, 108, 101, 120, 101, 114, 46, 60, 108, 111, 99, 97, 108, 115, 62, 46, 95, 108, 97, 119, 95, 110, 101, 120, 116]) (x.t 13) :: x.vr)) }
noncomputable def oCell (x : LX) : Obj := { cls := .type "cell", data := .cell (some (.ref x.aleft)) }
noncomputable def oList (l : List Value) (n : Nat) : Obj := { cls := .type "list", data := .seq (Array.mk l) n }
noncomputable def lexPre (P : Params) (x : LX) (l : List Value) (n : Nat) : List (Addr × Obj) := [(x.al, oInst x.ald), (x.ald, oLexD x 1), (x.as, oInst x.asd), (x.asd, oStrD x), (x.af, oNext P x), (x.ac, oCode x), (x.acl, oCell x), (x.aleft, oList l n)]
noncomputable def lexOs (P : Params) (x : LX) (l : List Value) (n : Nat) : List Obj := [oInst x.ald, oLexD x 1, oInst x.asd, oStrD x, oNext P x, oCode x, oCell x, oList l n]
noncomputable def chS (c : Nat) : Str := Str.mk (Array.mk [c])
noncomputable def rcSpec (P : Params) (x : LX) (c : Nat) (t : Tok) (rest : List Value) (n : Nat) : Spec :=
  .need ((Value.str (chS c) t :: rest).length ≤ 1000) (.need ((Value.str (chS c) t :: rest).length ≤ 1000) (.leaf (fun _ => []) (fun _ => ⟨.res (.ok (.ret (.str (chS c) t))), lexOs P x rest (n + 1), []⟩)))
end Mine

namespace Mine
open PySem PySem.Spec PySem.Calls PyProof.Rows PySem.W PySem.W.X

theorem CodeSpec.mono {prog : Program} {w : World} {kt : Addr → Obj → Prop} {D U : Nat} {c : Code} {pre : List (Addr × Obj)} {sp sp' : Spec} (h : CodeSpec prog w kt D U c pre sp) (hm : ∀ V, wpS V sp' → wpS V sp) : CodeSpec prog w kt D U c pre sp' :=
  fun A R s hA hD hU H hw => h A R s hA hD hU H (hm _ hw)
noncomputable def tgRC : Tg := (gl g0 [1, 0, 0, 9, 9, 9, 1, 0, 0, 0, 0, 1, 0, 0, 0, 1, 1, 0, 2, 3, 0, 0, 0, 3, 0, 0, 0, 3, 0, 0, 0, 3, 0, 0, 0, 0, 3, 0, 0, 0, 3, 3, 0, 4, 5, 1, 5, 6, 10, 10, 7, 8, 8, 4, 1, 7, 7, 8, 8, 8, 8, 0, 8, 3, 1, 7, 9, 9, 9, 0, 0, 9])
noncomputable def rulesA : List RuleD := [rPop, rLen]
theorem rulesA_ok (w : World) : ∀ r ∈ rulesA, RuleD.Ok pw0 w (ko w.params) r := by
  intro r hr
  simp only [rulesA, List.mem_cons, List.not_mem_nil, or_false] at hr
  rcases hr with rfl | rfl
  · exact rPop_ok _ _ _
  · exact rLen_ok _ _ _
noncomputable abbrev cRC (x : LX) : Code := .call (.ref 77) ⟨[.ref x.al], []⟩
noncomputable abbrev ckRC (P : Params) (b1 b2 : Bool) (x : LX) (c : Nat) (t : Tok) (rest : List Value) (n N tk : Nat) : Chk :=
  chkOf P b1 b2 rulesA (cRC x) 700 5000 (lexPre P x (.str (chS c) t :: rest) n) N tk tgRC (rcSpec P x c t rest n)
set_option maxHeartbeats 0
theorem rc_chk32 (P : Params) (b1 b2 : Bool) (x : LX) (t : Tok) (rest : List Value) (n N tk : Nat) : (ckRC P b1 b2 x 32 t rest n N tk).lhs = (ckRC P b1 b2 x 32 t rest n N tk).rhs := by
  cases b1 <;> kernel_rfl
theorem rc_chk34 (P : Params) (b1 b2 : Bool) (x : LX) (t : Tok) (rest : List Value) (n N tk : Nat) : (ckRC P b1 b2 x 34 t rest n N tk).lhs = (ckRC P b1 b2 x 34 t rest n N tk).rhs := by
  cases b1 <;> kernel_rfl
theorem rc_chk92 (P : Params) (b1 b2 : Bool) (x : LX) (t : Tok) (rest : List Value) (n N tk : Nat) : (ckRC P b1 b2 x 92 t rest n N tk).lhs = (ckRC P b1 b2 x 92 t rest n N tk).rhs := by
  cases b1 <;> kernel_rfl
noncomputable def rcSpec1 (P : Params) (x : LX) (c : Nat) (t : Tok) (rest : List Value) (n : Nat) : Spec :=
  .need (rest.length < 1000) (.leaf (fun _ => []) (fun _ => ⟨.res (.ok (.ret (.str (chS c) t))), lexOs P x rest (n + 1), []⟩))
noncomputable def okCh (c : Nat) : Bool := match Nat.beq c 32 with
  | true => true
  | false => match Nat.beq c 34 with
    | true => true
    | false => Nat.beq c 92
theorem okCh_is {c : Nat} (h : okCh c = true) : c = 32 ∨ c = 34 ∨ c = 92 := by
  unfold okCh at h
  split at h
  · rename_i q; exact .inl (Nat.eq_of_beq_eq_true q)
  · split at h
    · rename_i q; exact .inr (.inl (Nat.eq_of_beq_eq_true q))
    · exact .inr (.inr (Nat.eq_of_beq_eq_true h))
theorem rc_spec (w : World) (x : LX) {c : Nat} (hc : okCh c = true) (t : Tok) (rest : List Value) (n : Nat) :
    CodeSpec pw0 w (ko w.params) 700 5000 (cRC x) (lexPre w.params x (.str (chS c) t :: rest) n) (rcSpec1 w.params x c t rest n) := by
  have z : CodeSpec pw0 w (ko w.params) 700 5000 (cRC x) (lexPre w.params x (.str (chS c) t :: rest) n) (rcSpec w.params x c t rest n) := by
    rcases okCh_is hc with rfl | rfl | rfl
    · exact spec_of w (rulesA_ok w) fun b1 b2 N tk => rc_chk32 w.params b1 b2 x t rest n N tk
    · exact spec_of w (rulesA_ok w) fun b1 b2 N tk => rc_chk34 w.params b1 b2 x t rest n N tk
    · exact spec_of w (rulesA_ok w) fun b1 b2 N tk => rc_chk92 w.params b1 b2 x t rest n N tk
  refine z.mono fun V h => ⟨?_, ?_, h.2⟩
  · have := h.1; simp only [List.length_cons]; omega
  · have := h.1; simp only [List.length_cons]; omega
noncomputable def obK (es : List (Addr × Obj)) : Nat → Obj
  | 0 => match es with
    | x :: _ => x.2
    | [] => default
  | k + 1 => match es with
    | _ :: r => obK r k
    | [] => default
/-- _read_char, as a rule -/
noncomputable def rRC (P : Params) (x : LX) : RuleD where
  D := 700
  U := 5000
  code _ _ := cRC x
  objs _ es := lexPre P x (itemsOf (obK es 7)) (epOf (obK es 7))
  spec _ es := match itemsOf (obK es 7) with
    | v :: rest => match v with
      | .str s t => match s.cps.toList with
        | [c] => match okCh c with
          | true => rcSpec1 P x c t rest (epOf (obK es 7))
          | false => .stop 301
        | _ => .stop 302
      | _ => .stop 303
    | [] => .stop 304
theorem rRC_ok (w : World) (x : LX) : RuleD.Ok pw0 w (ko w.params) (rRC w.params x) := by
  intro c es he
  unfold rRC at he ⊢
  dsimp only at he ⊢
  generalize epOf (obK es 7) = n at *
  generalize itemsOf (obK es 7) = l at *
  subst he
  split
  · rename_i v rest
    split
    · rename_i s t
      split
      · rename_i c hc
        split
        · rename_i ho
          have : s = chS c := by
            apply Str.ext'
            apply Array.ext'
            exact hc
          subst this
          exact rc_spec w x ho t rest n
        · intro A R s _ _ _ _ hw; cases hw
      · intro A R s _ _ _ _ hw; cases hw
    · intro A R s _ _ _ _ hw; cases hw
  · intro A R s _ _ _ _ hw; cases hw
end Mine

namespace Mine
open PySem PySem.Spec PySem.Calls PyProof.Rows PySem.W PySem.W.X

noncomputable def forT (s : Stmt) : Expr := match s with
  | .For t _ _ _ _ => t
  | _ => default
noncomputable def forB (s : Stmt) : List Stmt := match s with
  | .For _ _ b _ _ => b
  | _ => []
noncomputable def forE (s : Stmt) : List Stmt := match s with
  | .For _ _ _ e _ => e
  | _ => []
noncomputable def ifB (s : Stmt) : List Stmt := match s with
  | .If _ b _ _ => b
  | _ => []
noncomputable def fdA (P : Params) (a : Nat) : FuncData := fdOf ((hdz.ktop_568 P).get a)
noncomputable def envA (P : Params) (a : Nat) (q : Str) (fr : Addr) : Env := { scope := (fdA P a).scope, locals := fr, globals := 3, cells := [], qual := q, func := some a, code := (fdA P a).code, frame := some fr, builtins := 0 }
noncomputable def outF (P : Params) : Stmt := nth (stmtsOf (fdA P 84).body) 3
noncomputable def inF (P : Params) : Stmt := nth (ifB (nth (forB (outF P)) 1)) 0
structure GX where
  fr : Addr
  me : Addr
  it : Addr
  h : Nat → Int
  t : Nat → Tok
noncomputable def envG (P : Params) (g : GX) : Env := envA P 84 (sl [95, 110, 101, 116, 114, 99, 108, 101, 120, 46, 103, 101, 116, 95, 116, 111, 107, 101, 110, 46, 60, 108, 111, 99, 97, 108, 115, 62, 46]) g.fr
noncomputable def cIn (P : Params) (g : GX) : Code := .forLoop (forT (inF P)) (.ref g.it) (forB (inF P)) (forE (inF P)) (envG P g)
noncomputable def frO (l : List DictEntry) (n : Nat) : Obj := { cls := .type "frame", data := .dict (Array.mk l) n }
noncomputable def oFrG (x : LX) (g : GX) (W : Str) (tw : Tok) (ch : Str) (tc : Tok) : Obj := frO [⟨g.h 0, .str (sl [115, 101, 108, 102]) (g.t 0), .ref x.al⟩, ⟨g.h 1, .str (sl [116, 111, 107, 101, 110]) (g.t 1), .str W tw⟩, ⟨g.h 2, .str (sl [102, 105, 116, 101, 114]) (g.t 2), .ref g.it⟩, ⟨g.h 3, .str (sl [99, 104]) (g.t 3), .str ch tc⟩] 4
noncomputable def oMeth (x : LX) : Obj := { cls := .type "method", data := .fields (Array.mk [.ref 77, .ref x.al]) }
noncomputable def oIter (g : GX) : Obj := { cls := .type "callable_iterator", data := .fields (Array.mk [.ref g.me, .str (sl []) (g.t 4), .bool false]) }
noncomputable def inPre (P : Params) (x : LX) (g : GX) (l : List Value) (n : Nat) (W : Str) (tw : Tok) (ch : Str) (tc : Tok) : List (Addr × Obj) :=
  lexPre P x l n ++ [(g.fr, oFrG x g W tw ch tc), (g.me, oMeth x), (g.it, oIter g)]
noncomputable def inOs (P : Params) (x : LX) (g : GX) (l : List Value) (n : Nat) (W : Str) (tw : Tok) (ch : Str) (tc : Tok) : List Obj :=
  lexOs P x l n ++ [oFrG x g W tw ch tc, oMeth x, oIter g]
noncomputable def entAt (o : Obj) (k : Nat) : DictEntry := match o with
  | ⟨_, _, .dict es _, _⟩ => es.toList.getD k default
  | _ => default
noncomputable def sTok (v : Value) : Tok := match v with
  | .str _ t => t
  | _ => 0
noncomputable def osK : List Obj → Nat → Obj
  | [], _ => default
  | o :: r, k => match k with
    | 0 => o
    | k + 1 => osK r k
noncomputable def witTok (k e : Nat) (L : Leaf) : List Nat := [sTok (entAt (osK L.os k) e).val]
/-- a turn that reads a backslash and a sign -/
noncomputable def teSpec (P : Params) (x : LX) (g : GX) (c : Nat) (t2 : Tok) (rest : List Value) (n : Nat) (W : Str) : Spec :=
  .need ((Value.str (chS c) t2 :: rest).length < 1000) (.need (rest.length < 1000) (.need (W.length + (chS c).length ≤ 1000) (.leaf (witTok 8 1) (fun ws => ⟨.again (cIn P g), inOs P x g rest (n + 1 + 1) (W ++ chS c) (ws.getD 0 0) (chS c) t2, []⟩))))
/-- a turn that reads a blank -/
noncomputable def tsSpec (P : Params) (x : LX) (g : GX) (t1 : Tok) (rest : List Value) (n : Nat) (W : Str) : Spec :=
  .need (rest.length < 1000) (.need (W.length + (chS 32).length ≤ 1000) (.leaf (witTok 8 1) (fun ws => ⟨.again (cIn P g), inOs P x g rest (n + 1) (W ++ chS 32) (ws.getD 0 0) (chS 32) t1, []⟩)))
/-- the closing quotation mark -/
noncomputable def enSpec (P : Params) (x : LX) (g : GX) (t1 : Tok) (rest : List Value) (n : Nat) (W : Str) (tw : Tok) : Spec :=
  .need (rest.length < 1000) (.leaf (fun _ => []) (fun _ => ⟨.res (.ok (.ret (.str W tw))), inOs P x g rest (n + 1) W tw (chS 34) t1, []⟩))
noncomputable def rulesB (P : Params) (x : LX) : List RuleD := [rPop, rLen, rRC P x, rAdd]
theorem rulesB_ok (w : World) (x : LX) : ∀ r ∈ rulesB w.params x, RuleD.Ok pw0 w (ko w.params) r := by
  intro r hr
  simp only [rulesB, List.mem_cons, List.not_mem_nil, or_false] at hr
  rcases hr with rfl | rfl | rfl | rfl
  · exact rPop_ok _ _ _
  · exact rLen_ok _ _ _
  · exact rRC_ok w x
  · exact rAdd_ok _ _ _
noncomputable def tgTE : Tg := (gl g0 [0, 11, 0, 11, 0, 11, 11, 10, 0, 0, 10, 5, 8, 0, 1, 2, 3, 4, 5, 6, 7, 11, 11, 0, 0, 9, 9, 9, 0, 0, 9, 0, 0, 9, 1, 0, 0, 0, 1, 0, 0, 0, 1, 0, 0, 0, 0, 1, 2, 0, 5, 8, 0, 1, 2, 3, 4, 5, 6, 7, 9, 9, 9, 9, 0, 6, 0, 9, 9, 2])
noncomputable def tgTS : Tg := (gl g0 [0, 11, 0, 11, 0, 11, 11, 10, 0, 0, 10, 5, 8, 0, 1, 2, 3, 4, 5, 6, 7, 11, 11, 0, 0, 9, 9, 9, 0, 0, 9, 0, 0, 9, 9, 0, 6, 0, 9, 9, 2])
noncomputable def tgEN : Tg := (gl g0 [0, 11, 0, 11, 0, 11, 11, 10, 0, 0, 10, 5, 8, 0, 1, 2, 3, 4, 5, 6, 7, 11, 11, 0, 0, 9, 9, 9, 0, 0, 9])
noncomputable abbrev ckTE (P : Params) (b1 b2 : Bool) (x : LX) (g : GX) (c : Nat) (t1 t2 : Tok) (rest : List Value) (n : Nat) (W : Str) (tw : Tok) (ch : Str) (tc : Tok) (N tk : Nat) : Chk :=
  chkOf P b1 b2 (rulesB P x) (cIn P g) 350 4000 (inPre P x g (.str (chS 92) t1 :: .str (chS c) t2 :: rest) n W tw ch tc) N tk tgTE (teSpec P x g c t2 rest n W)
noncomputable abbrev ckTS (P : Params) (b1 b2 : Bool) (x : LX) (g : GX) (t1 : Tok) (rest : List Value) (n : Nat) (W : Str) (tw : Tok) (ch : Str) (tc : Tok) (N tk : Nat) : Chk :=
  chkOf P b1 b2 (rulesB P x) (cIn P g) 350 4000 (inPre P x g (.str (chS 32) t1 :: rest) n W tw ch tc) N tk tgTS (tsSpec P x g t1 rest n W)
noncomputable abbrev ckEN (P : Params) (b1 b2 : Bool) (x : LX) (g : GX) (t1 : Tok) (rest : List Value) (n : Nat) (W : Str) (tw : Tok) (ch : Str) (tc : Tok) (N tk : Nat) : Chk :=
  chkOf P b1 b2 (rulesB P x) (cIn P g) 350 4000 (inPre P x g (.str (chS 34) t1 :: rest) n W tw ch tc) N tk tgEN (enSpec P x g t1 rest n W tw)
set_option maxHeartbeats 0
theorem te_chk34 (P : Params) (b1 b2 : Bool) (x : LX) (g : GX) (t1 t2 : Tok) (rest : List Value) (n : Nat) (W : Str) (tw : Tok) (ch : Str) (tc : Tok) (N tk : Nat) : (ckTE P b1 b2 x g 34 t1 t2 rest n W tw ch tc N tk).lhs = (ckTE P b1 b2 x g 34 t1 t2 rest n W tw ch tc N tk).rhs := by
  cases b1 <;> kernel_rfl
theorem te_chk92 (P : Params) (b1 b2 : Bool) (x : LX) (g : GX) (t1 t2 : Tok) (rest : List Value) (n : Nat) (W : Str) (tw : Tok) (ch : Str) (tc : Tok) (N tk : Nat) : (ckTE P b1 b2 x g 92 t1 t2 rest n W tw ch tc N tk).lhs = (ckTE P b1 b2 x g 92 t1 t2 rest n W tw ch tc N tk).rhs := by
  cases b1 <;> kernel_rfl
theorem ts_chk (P : Params) (b1 b2 : Bool) (x : LX) (g : GX) (t1 : Tok) (rest : List Value) (n : Nat) (W : Str) (tw : Tok) (ch : Str) (tc : Tok) (N tk : Nat) : (ckTS P b1 b2 x g t1 rest n W tw ch tc N tk).lhs = (ckTS P b1 b2 x g t1 rest n W tw ch tc N tk).rhs := by
  cases b1 <;> kernel_rfl
theorem en_chk (P : Params) (b1 b2 : Bool) (x : LX) (g : GX) (t1 : Tok) (rest : List Value) (n : Nat) (W : Str) (tw : Tok) (ch : Str) (tc : Tok) (N tk : Nat) : (ckEN P b1 b2 x g t1 rest n W tw ch tc N tk).lhs = (ckEN P b1 b2 x g t1 rest n W tw ch tc N tk).rhs := by
  cases b1 <;> kernel_rfl
end Mine

namespace Mine
open PySem PySem.Spec PySem.Calls PyProof.Rows PySem.W PySem.W.X

section
variable {kt : Addr → Obj → Prop} {pre : List Addr} {h₀ h h2 : Heap} {L L2 : Leaf}
theorem Ends.there (E : Ends kt pre h₀ h L) {b : Addr} {o : Obj} (e : h₀.get? b = some o) : ∃ o', h.get? b = some o' := by
  by_cases q : b ∈ pre
  · obtain ⟨k, hk, ek⟩ := List.getElem_of_mem q
    have : k < L.os.length := by rw [E.len]; exact hk
    exact ⟨_, E.own k b _ (by rw [List.getElem?_eq_getElem hk, ek]) (List.getElem?_eq_getElem this)⟩
  · exact ⟨o, E.keep b o e q⟩
theorem Ends.trans (E : Ends kt pre h₀ h L) (E2 : Ends kt pre h h2 L2) : Ends kt pre h₀ h2 L2 :=
  ⟨E2.old, E2.len, E2.own, fun x hx => (by
    obtain ⟨y1, y2, y3⟩ := E2.news x hx
    refine ⟨y1, ?_, y3⟩
    cases q : h₀.get? x.1 with
    | none => rfl
    | some o =>
      obtain ⟨o', eo⟩ := E.there q
      rw [y2] at eo
      cases eo), E2.nd, fun b o e hb => E2.keep b o (E.keep b o e hb) hb⟩
end
theorem wpS_trans {V V' : BV} {L : Leaf} (e1 : V'.kt = V.kt) (e2 : V'.pre = V.pre) (e3 : ∀ e s, V.post e s → V'.post e s) (e4 : ∀ h tk, V'.fin h tk = V.fin h tk) (E : Ends V.kt V.pre V.h₀ V'.h₀ L) : ∀ sp, wpS V sp → wpS V' sp
  | .stop _, hw => hw
  | .leaf _ F, hw => fun ws h tk E2 => by
    rw [e4]
    refine e3 _ _ (hw ws h tk (E.trans ?_))
    rw [← e1, ← e2]
    exact E2
  | .ask b x y, hw => ⟨fun q => wpS_trans e1 e2 e3 e4 E x (hw.1 q), fun q => wpS_trans e1 e2 e3 e4 E y (hw.2 q)⟩
  | .need p x, hw => ⟨hw.1, wpS_trans e1 e2 e3 e4 E x hw.2⟩
/-- after one contract's turn the next one begins -/
theorem code_next {prog : Program} {w : World} {kt : Addr → Obj → Prop} {D U : Nat} {A : Around} {R : Result → Shared → Prop} {s : Shared} {pre : List (Addr × Obj)} {c' : Code} {L : Leaf} {h : Heap} {tk : Nat} {sp : Spec}
    (hA : A.handled = none) (hD : A.depth ≤ D) (hU : A.units ≤ U) (H : Start kt s.heap pre) (E : Ends kt (pre.map (·.1)) s.heap h L)
    (C : CodeSpec prog w kt D U c' ((pre.map (·.1)).zip L.os) sp) (hw : wpS ⟨prog, w, kt, pre.map (·.1), s.heap, A, R, s.gens, s.drawn, s.os⟩ sp) :
    codeAny (model prog w) A c' R ⟨h, s.gens, s.drawn, tk, s.os⟩ := by
  have hz : ((pre.map (·.1)).zip L.os).map (·.1) = pre.map (·.1) := by
    rw [List.map_fst_zip]; rw [E.len]; exact Nat.le_refl _
  have St : Start kt h ((pre.map (·.1)).zip L.os) := by
    refine ⟨E.old, fun x hx => ?_, by rw [hz]; exact H.nd⟩
    obtain ⟨k, hk, ek⟩ := List.getElem_of_mem hx
    have h1 : k < (pre.map (·.1)).length := by rw [List.length_zip] at hk; omega
    have h2 : k < L.os.length := by rw [List.length_zip] at hk; omega
    rw [List.getElem_zip] at ek
    subst ek
    refine ⟨E.own k _ _ (List.getElem?_eq_getElem h1) (List.getElem?_eq_getElem h2), ?_⟩
    obtain ⟨y, hy, ey⟩ := List.mem_map.mp (List.getElem_mem h1)
    rw [← ey]
    exact (H.own y hy).2
  refine C A R ⟨h, s.gens, s.drawn, tk, s.os⟩ hA hD hU St ?_
  refine wpS_trans (V := ⟨prog, w, kt, pre.map (·.1), s.heap, A, R, s.gens, s.drawn, s.os⟩) (V' := ⟨prog, w, kt, ((pre.map (·.1)).zip L.os).map (·.1), h, A, R, s.gens, s.drawn, s.os⟩) rfl hz (fun e s q => q) (fun _ _ => rfl) E sp hw
end Mine
namespace Mine
open PySem PySem.Spec PySem.Calls PyProof.Rows PySem.W PySem.W.X
theorem wpS_more {V V' : BV} (hk : ∀ b o, V.kt b o → V'.kt b o) (hs : ∀ b o, V'.kt b o → V.h₀.get? b = some o) (hp : ∀ a ∈ V.pre, ∀ o, ¬ V'.kt a o) (e2 : V'.pre = V.pre) (e5 : V'.h₀ = V.h₀) (e3 : ∀ e s, V'.post e s → V.post e s) (e4 : ∀ h tk, V'.fin h tk = V.fin h tk) : ∀ sp, wpS V' sp → wpS V sp
  | .stop _, hw => hw
  | .leaf _ F, hw => fun ws h tk E => by
    rw [← e4]
    refine e3 _ _ (hw ws h tk ?_)
    rw [e2, e5]
    exact ⟨fun b o q => E.keep b o (hs b o q) (fun hb => hp b hb o q), E.len, E.own, fun x hx => ⟨(E.news x hx).1, (E.news x hx).2.1, fun o' q => by
      have := hs _ _ q
      rw [(E.news x hx).2.1] at this
      cases this⟩, E.nd, E.keep⟩
  | .ask b x y, hw => ⟨fun q => wpS_more hk hs hp e2 e5 e3 e4 x (hw.1 q), fun q => wpS_more hk hs hp e2 e5 e3 e4 y (hw.2 q)⟩
  | .need p x, hw => ⟨hw.1, wpS_more hk hs hp e2 e5 e3 e4 x hw.2⟩
/-- a contract holds beside more known objects -/
theorem CodeSpec.more {prog : Program} {w : World} {kt kt' : Addr → Obj → Prop} {D U : Nat} {c : Code} {pre : List (Addr × Obj)} {sp : Spec} (C : CodeSpec prog w kt D U c pre sp) (hk : ∀ b o, kt b o → kt' b o) : CodeSpec prog w kt' D U c pre sp := by
  intro A R s hA hD hU H hw
  refine C A R s hA hD hU ⟨fun b o q => H.old b o (hk b o q), fun p hp => ⟨(H.own p hp).1, fun o' q => (H.own p hp).2 o' (hk _ _ q)⟩, H.nd⟩ ?_
  refine wpS_more (V := ⟨prog, w, kt, pre.map (·.1), s.heap, A, R, s.gens, s.drawn, s.os⟩) (V' := ⟨prog, w, kt', pre.map (·.1), s.heap, A, R, s.gens, s.drawn, s.os⟩) hk H.old (fun a ha o q => ?_) rfl rfl (fun _ _ q => q) (fun _ _ => rfl) sp hw
  obtain ⟨x, hx, ex⟩ := List.mem_map.mp ha
  subst ex
  exact (H.own x hx).2 o q
theorem RuleD.Ok.more {prog : Program} {w : World} {kt kt' : Addr → Obj → Prop} {r : RuleD} (h : RuleD.Ok prog w kt r) (hk : ∀ b o, kt b o → kt' b o) : RuleD.Ok prog w kt' r := fun c es he => (h c es he).more hk
end Mine

namespace Mine
open PySem PySem.Spec PySem.Calls PyProof.Rows PySem.W PySem.W.X

theorem te_spec (w : World) (x : LX) (g : GX) {c : Nat} (hc : c = 34 ∨ c = 92) (t1 t2 : Tok) (rest : List Value) (n : Nat) (W : Str) (tw : Tok) (ch : Str) (tc : Tok) :
    CodeSpec pw0 w (ko w.params) 350 4000 (cIn w.params g) (inPre w.params x g (.str (chS 92) t1 :: .str (chS c) t2 :: rest) n W tw ch tc) (teSpec w.params x g c t2 rest n W) := by
  rcases hc with rfl | rfl
  · exact spec_of w (rulesB_ok w x) fun b1 b2 N tk => te_chk34 w.params b1 b2 x g t1 t2 rest n W tw ch tc N tk
  · exact spec_of w (rulesB_ok w x) fun b1 b2 N tk => te_chk92 w.params b1 b2 x g t1 t2 rest n W tw ch tc N tk
theorem ts_spec (w : World) (x : LX) (g : GX) (t1 : Tok) (rest : List Value) (n : Nat) (W : Str) (tw : Tok) (ch : Str) (tc : Tok) :
    CodeSpec pw0 w (ko w.params) 350 4000 (cIn w.params g) (inPre w.params x g (.str (chS 32) t1 :: rest) n W tw ch tc) (tsSpec w.params x g t1 rest n W) :=
  spec_of w (rulesB_ok w x) fun b1 b2 N tk => ts_chk w.params b1 b2 x g t1 rest n W tw ch tc N tk
theorem en_spec (w : World) (x : LX) (g : GX) (t1 : Tok) (rest : List Value) (n : Nat) (W : Str) (tw : Tok) (ch : Str) (tc : Tok) :
    CodeSpec pw0 w (ko w.params) 350 4000 (cIn w.params g) (inPre w.params x g (.str (chS 34) t1 :: rest) n W tw ch tc) (enSpec w.params x g t1 rest n W tw) :=
  spec_of w (rulesB_ok w x) fun b1 b2 N tk => en_chk w.params b1 b2 x g t1 rest n W tw ch tc N tk
noncomputable def encV (c : Nat) : List (Tok × Tok) → List Value
  | [] => []
  | p :: l => match Nat.beq c 32 with
    | true => .str (chS 32) p.1 :: encV c l
    | false => .str (chS 92) p.1 :: .str (chS c) p.2 :: encV c l
noncomputable def wd (c k : Nat) : Str := sl (List.replicate k c)
theorem wd_zero (W : Str) (c : Nat) : W ++ wd c 0 = W := by
  apply Str.ext'
  rw [Str.cps_append]
  show W.cps ++ (Array.mk (List.replicate 0 c)) = W.cps
  simp
theorem wd_succ (W : Str) (c k : Nat) : (W ++ chS c) ++ wd c k = W ++ wd c (k + 1) := by
  apply Str.ext'
  simp only [Str.cps_append]
  show W.cps ++ Array.mk [c] ++ Array.mk (List.replicate k c) = W.cps ++ Array.mk (List.replicate (k + 1) c)
  rw [Array.append_assoc]
  congr 1
  apply Array.ext'
  simp [List.replicate_succ]
theorem enc_len (c : Nat) : ∀ ts : List (Tok × Tok), (encV c ts).length ≤ 2 * ts.length
  | [] => by simp [encV]
  | p :: l => by
    unfold encV
    have := enc_len c l
    split <;> simp only [List.length_cons] <;> omega
noncomputable def inSpec (P : Params) (x : LX) (g : GX) (c : Nat) (ts : List (Tok × Tok)) (t : Tok) (rest : List Value) (n : Nat) (W : Str) : Spec :=
  .need (2 * ts.length + rest.length + W.length < 900) (.leaf (witTok 8 1) (fun ws => ⟨.res (.ok (.ret (.str (W ++ wd c ts.length) (ws.getD 0 0)))), inOs P x g rest (n + (encV c ts).length + 1) (W ++ wd c ts.length) (ws.getD 0 0) (chS 34) t, []⟩))
theorem quiet_in (P : Params) (g : GX) : (cIn P g).quiet = true := by
  unfold cIn
  rfl
theorem chS_length (c : Nat) : (chS c).length = 1 := rfl
theorem in_spec (w : World) (x : LX) (g : GX) {c : Nat} (hc : okCh c = true) (t : Tok) (rest : List Value) : ∀ (ts : List (Tok × Tok)) (n : Nat) (W : Str) (tw : Tok) (ch : Str) (tc : Tok),
    CodeSpec pw0 w (ko w.params) 350 4000 (cIn w.params g) (inPre w.params x g (encV c ts ++ .str (chS 34) t :: rest) n W tw ch tc) (inSpec w.params x g c ts t rest n W)
  | [], n, W, tw, ch, tc => by
    refine (en_spec w x g t rest n W tw ch tc).mono fun V h => ⟨?_, fun ws hp tk E => ?_⟩
    · have := h.1; omega
    · have z := h.2 [tw] hp tk
      simp only [List.length_nil, wd_zero] at z
      exact z E
  | p :: ts, n, W, tw, ch, tc => by
    intro A R s hA hD hU H hw
    obtain ⟨hn, hw⟩ := hw
    simp only [List.length_cons] at hn
    rcases okCh_is hc with rfl | hc'
    · refine ts_spec w x g p.1 (encV 32 ts ++ .str (chS 34) t :: rest) n W tw ch tc A R s hA hD hU H ⟨?_, ?_, fun ws hp tk E => ⟨quiet_in _ _, ?_⟩⟩
      · have := enc_len 32 ts; simp only [List.length_append, List.length_cons]; omega
      · rw [chS_length]; omega
      · refine code_next (pre := inPre w.params x g (encV 32 (p :: ts) ++ .str (chS 34) t :: rest) n W tw ch tc) hA hD hU H E (in_spec w x g hc t rest ts (n + 1) (W ++ chS 32) (ws.getD 0 0) (chS 32) p.1) ⟨?_, fun ws' hp' tk' E' => ?_⟩
        · rw [Str.length_append, chS_length]; omega
        · have z := hw ws' hp' tk'
          rw [wd_succ, show n + 1 + (encV 32 ts).length + 1 = n + (encV 32 (p :: ts)).length + 1 from by
            show n + 1 + (encV 32 ts).length + 1 = n + ((encV 32 ts).length + 1) + 1
            omega] at *
          exact z E'
    · have hb : Nat.beq c 32 = false := by rcases hc' with rfl | rfl <;> rfl
      have ee : encV c (p :: ts) = .str (chS 92) p.1 :: .str (chS c) p.2 :: encV c ts := by
        show (match Nat.beq c 32 with | true => _ | false => _) = _
        rw [hb]
      rw [ee] at H
      refine te_spec w x g hc' p.1 p.2 (encV c ts ++ .str (chS 34) t :: rest) n W tw ch tc A R s hA hD hU H ⟨?_, ?_, ?_, fun ws hp tk E => ⟨quiet_in _ _, ?_⟩⟩
      · have := enc_len c ts; simp only [List.length_append, List.length_cons]; omega
      · have := enc_len c ts; simp only [List.length_append, List.length_cons]; omega
      · rw [chS_length]; omega
      · refine code_next (pre := inPre w.params x g (.str (chS 92) p.1 :: .str (chS c) p.2 :: (encV c ts ++ .str (chS 34) t :: rest)) n W tw ch tc) hA hD hU H E (in_spec w x g hc t rest ts (n + 1 + 1) (W ++ chS c) (ws.getD 0 0) (chS c) p.2) ⟨?_, fun ws' hp' tk' E' => ?_⟩
        · rw [Str.length_append, chS_length]; omega
        · have z := hw ws' hp' tk'
          rw [wd_succ, show n + 1 + 1 + (encV c ts).length + 1 = n + (encV c (p :: ts)).length + 1 from by
            rw [ee]; simp only [List.length_cons]; omega] at *
          exact z E'
end Mine

namespace Mine
open PySem PySem.Spec PySem.Calls PyProof.Rows PySem.W PySem.W.X

noncomputable def adK (es : List (Addr × Obj)) : Nat → Addr
  | 0 => match es with
    | x :: _ => x.1
    | [] => 0
  | k + 1 => match es with
    | _ :: r => adK r k
    | [] => 0
noncomputable def fldAt (o : Obj) (k : Nat) : Value := match o with
  | ⟨_, _, .fields vs, _⟩ => vs.toList.getD k .none
  | _ => .none
noncomputable def sStr (v : Value) : Str := match v with
  | .str s _ => s
  | _ => default
noncomputable def gxOf (es : List (Addr × Obj)) : GX where
  fr := adK es 8
  me := adK es 9
  it := adK es 10
  h := fun i => (entAt (obK es 8) i).hash
  t := fun i => match Nat.beq i 4 with
    | true => sTok (fldAt (obK es 10) 1)
    | false => sTok (entAt (obK es 8) i).key
/-- the inner loop of get_token, as a rule -/
noncomputable def rIn (P : Params) (x : LX) (c : Nat) (ts : List (Tok × Tok)) (t : Tok) (rest : List Value) : RuleD where
  D := 350
  U := 4000
  code _ es := cIn P (gxOf es)
  objs _ es := inPre P x (gxOf es) (encV c ts ++ .str (chS 34) t :: rest) (epOf (obK es 7)) (sStr (entAt (obK es 8) 1).val) (sTok (entAt (obK es 8) 1).val) (sStr (entAt (obK es 8) 3).val) (sTok (entAt (obK es 8) 3).val)
  spec _ es := inSpec P x (gxOf es) c ts t rest (epOf (obK es 7)) (sStr (entAt (obK es 8) 1).val)
theorem rIn_ok (w : World) (x : LX) {c : Nat} (hc : okCh c = true) (ts : List (Tok × Tok)) (t : Tok) (rest : List Value) : RuleD.Ok pw0 w (ko w.params) (rIn w.params x c ts t rest) := by
  intro c' es he
  have z := in_spec w x (gxOf es) hc t rest ts (epOf (obK es 7)) (sStr (entAt (obK es 8) 1).val) (sTok (entAt (obK es 8) 1).val) (sStr (entAt (obK es 8) 3).val) (sTok (entAt (obK es 8) 3).val)
  exact cast (congrArg (fun l => CodeSpec pw0 w (ko w.params) 350 4000 (cIn w.params (gxOf es)) l (inSpec w.params x (gxOf es) c ts t rest (epOf (obK es 7)) (sStr (entAt (obK es 8) 1).val))) he.symm) z
noncomputable def rulesC (P : Params) (x : LX) (c : Nat) (ts : List (Tok × Tok)) (t : Tok) (rest : List Value) : List RuleD := [rPop, rLen, rRC P x, rAdd, rIn P x c ts t rest]
theorem rulesC_ok (w : World) (x : LX) {c : Nat} (hc : okCh c = true) (ts : List (Tok × Tok)) (t : Tok) (rest : List Value) : ∀ r ∈ rulesC w.params x c ts t rest, RuleD.Ok pw0 w (ko w.params) r := by
  intro r hr
  simp only [rulesC, List.mem_cons, List.not_mem_nil, or_false] at hr
  rcases hr with rfl | rfl | rfl | rfl | rfl
  · exact rPop_ok _ _ _
  · exact rLen_ok _ _ _
  · exact rRC_ok w x
  · exact rAdd_ok _ _ _
  · exact rIn_ok w x hc ts t rest
noncomputable abbrev cGT (x : LX) : Code := .call (.ref 84) ⟨[.ref x.al], []⟩
noncomputable def leadV (ld : Option Tok) : List Value := match ld with
  | none => []
  | some t => [.str (chS 32) t]
noncomputable def gtPre (P : Params) (x : LX) (ld : Option Tok) (c : Nat) (t0 : Tok) (ts : List (Tok × Tok)) (t : Tok) (rest : List Value) (n m : Nat) : List (Addr × Obj) :=
  lexPre P x (leadV ld ++ .str (chS 34) t0 :: (encV c ts ++ .str (chS 34) t :: rest)) n ++ [(x.apb, oList [] m)]
noncomputable def witRet (L : Leaf) : List Nat := match L.e with
  | .res (.ok (.ret v)) => [sTok v]
  | _ => []
noncomputable def gt0Spec (P : Params) (x : LX) (c : Nat) (ts : List (Tok × Tok)) (t : Tok) (rest : List Value) (n m : Nat) : Spec :=
  .need (([] : List Value).length ≤ 1000) (.need ((encV c ts ++ .str (chS 34) t :: rest).length < 1000) (.need (2 * ts.length + rest.length + (sl []).length < 900)
    (.leaf witRet (fun ws => ⟨.res (.ok (.ret (.str (sl [] ++ wd c ts.length) (ws.getD 0 0)))), lexOs P x rest (n + 1 + (encV c ts).length + 1) ++ [oList [] m], []⟩))))
noncomputable def gt1Spec (P : Params) (x : LX) (c : Nat) (t0 : Tok) (ts : List (Tok × Tok)) (t : Tok) (rest : List Value) (n m : Nat) : Spec :=
  .need (([] : List Value).length ≤ 1000) (.need ((.str (chS 34) t0 :: (encV c ts ++ .str (chS 34) t :: rest) : List Value).length < 1000) (.need ((encV c ts ++ .str (chS 34) t :: rest).length < 1000) (.need (2 * ts.length + rest.length + (sl []).length < 900)
    (.leaf witRet (fun ws => ⟨.res (.ok (.ret (.str (sl [] ++ wd c ts.length) (ws.getD 0 0)))), lexOs P x rest (n + 1 + 1 + (encV c ts).length + 1) ++ [oList [] m], []⟩)))))
noncomputable def gtpSpec (x : LX) (sv : Str) (tv : Tok) (q : List Value) (m : Nat) : Spec :=
  .need ((.str sv tv :: q : List Value).length ≤ 1000) (.need ((.str sv tv :: q : List Value).length ≤ 1000) (.leaf (fun _ => []) (fun _ => ⟨.res (.ok (.ret (.str sv tv))), [oInst x.ald, oLexD x 1, oList q (m + 1)], []⟩)))
noncomputable def tgG0 : Tg := (gl g0 [1, 0, 0, 10, 10, 10, 1, 0, 0, 0, 0, 1, 0, 0, 0, 1, 1, 0, 2, 9, 9, 4, 1, 8, 10, 10, 0, 0, 10, 1, 0, 0, 0, 0, 1, 0, 0, 0, 0, 0, 0, 1, 1, 0, 2, 0, 0, 0, 0, 0, 0, 0, 0, 11, 10, 10, 10, 12, 12, 0, 12, 0, 12, 0, 12, 0, 12, 0, 12, 12, 11, 0, 0, 11, 5, 8, 0, 1, 2, 3, 4, 5, 6, 7, 12, 12, 0, 0, 10, 10, 10, 10, 1, 0, 0, 0, 0, 1, 0, 0, 0, 1, 1, 0, 2, 0, 0, 10, 0, 0, 10, 12, 12, 0, 12, 0, 12, 7, 11, 0, 1, 2, 3, 4, 5, 6, 7, 9, 10, 11])
noncomputable def tgG1 : Tg := (gl g0 [1, 0, 0, 10, 10, 10, 1, 0, 0, 0, 0, 1, 0, 0, 0, 1, 1, 0, 2, 9, 9, 4, 1, 8, 10, 10, 0, 0, 10, 1, 0, 0, 0, 0, 1, 0, 0, 0, 0, 0, 0, 1, 1, 0, 2, 0, 0, 0, 0, 0, 0, 0, 0, 11, 10, 10, 10, 12, 12, 0, 12, 0, 12, 0, 12, 0, 12, 0, 12, 12, 11, 0, 0, 11, 5, 8, 0, 1, 2, 3, 4, 5, 6, 7, 12, 12, 0, 0, 10, 10, 10, 10, 1, 0, 0, 0, 0, 1, 0, 0, 0, 1, 1, 0, 2, 0, 0, 0, 12, 0, 12, 0, 12, 12, 11, 0, 0, 11, 5, 8, 0, 1, 2, 3, 4, 5, 6, 7, 12, 12, 0, 0, 10, 10, 10, 10, 1, 0, 0, 0, 0, 1, 0, 0, 0, 1, 1, 0, 2, 0, 0, 10, 0, 0, 10, 12, 12, 0, 12, 0, 12, 7, 11, 0, 1, 2, 3, 4, 5, 6, 7, 9, 10, 11])
noncomputable def tgGP : Tg := (gl g0 [1, 0, 0, 4, 4, 4, 1, 0, 0, 0, 0, 1, 0, 0, 0, 1, 1, 0, 2, 3, 3, 4, 1, 2, 4, 1, 0, 0, 0, 0, 1, 0, 0, 0, 1, 1, 0, 2, 3, 3, 3, 3, 0, 3, 3, 1, 2])
noncomputable abbrev ckG0 (P : Params) (b1 b2 : Bool) (x : LX) (c : Nat) (t0 : Tok) (ts : List (Tok × Tok)) (t : Tok) (rest : List Value) (n m : Nat) (N tk : Nat) : Chk :=
  chkOf P b1 b2 (rulesC P x c ts t rest) (cGT x) 340 3900 (gtPre P x none c t0 ts t rest n m) N tk tgG0 (gt0Spec P x c ts t rest n m)
noncomputable abbrev ckG1 (P : Params) (b1 b2 : Bool) (x : LX) (c : Nat) (t1 t0 : Tok) (ts : List (Tok × Tok)) (t : Tok) (rest : List Value) (n m : Nat) (N tk : Nat) : Chk :=
  chkOf P b1 b2 (rulesC P x c ts t rest) (cGT x) 340 3900 (gtPre P x (some t1) c t0 ts t rest n m) N tk tgG1 (gt1Spec P x c t0 ts t rest n m)
noncomputable abbrev ckGP (P : Params) (b1 b2 : Bool) (x : LX) (sv : Str) (tv : Tok) (q : List Value) (m : Nat) (N tk : Nat) : Chk :=
  chkOf P b1 b2 rulesA (cGT x) 340 3900 [(x.al, oInst x.ald), (x.ald, oLexD x 1), (x.apb, oList (.str sv tv :: q) m)] N tk tgGP (gtpSpec x sv tv q m)
set_option maxHeartbeats 0
theorem g0_chk (P : Params) (b1 b2 : Bool) (x : LX) (c : Nat) (t0 : Tok) (ts : List (Tok × Tok)) (t : Tok) (rest : List Value) (n m : Nat) (N tk : Nat) : (ckG0 P b1 b2 x c t0 ts t rest n m N tk).lhs = (ckG0 P b1 b2 x c t0 ts t rest n m N tk).rhs := by
  cases b1 <;> kernel_rfl
theorem g1_chk (P : Params) (b1 b2 : Bool) (x : LX) (c : Nat) (t1 t0 : Tok) (ts : List (Tok × Tok)) (t : Tok) (rest : List Value) (n m : Nat) (N tk : Nat) : (ckG1 P b1 b2 x c t1 t0 ts t rest n m N tk).lhs = (ckG1 P b1 b2 x c t1 t0 ts t rest n m N tk).rhs := by
  cases b1 <;> kernel_rfl
theorem gp_chk (P : Params) (b1 b2 : Bool) (x : LX) (sv : Str) (tv : Tok) (q : List Value) (m : Nat) (N tk : Nat) : (ckGP P b1 b2 x sv tv q m N tk).lhs = (ckGP P b1 b2 x sv tv q m N tk).rhs := by
  cases b1 <;> kernel_rfl
end Mine

namespace Mine
open PySem PySem.Spec PySem.Calls PyProof.Rows PySem.W PySem.W.X

theorem meets_append (l : Addr) (items : Array Value) (n : Nat) (x : Value) (hs1 : items.size ≤ sizeLine) :
    Meets (Builtin.«list.append» ⟨[.ref l, x], []⟩)
      (fun _ R s => s.heap.get? l = some { cls := .type "list", dict := none, data := .seq items n, slots := #[] } ∧ R (.ok (.ret .none)) { s with heap := s.heap.update l (Obj.mapSeq fun xs => xs.push x) }) :=
  .of_wp fun prog w A R s h => by
    obtain ⟨hp, g, d, tk, os⟩ := s
    obtain ⟨hl, h⟩ := h
    have hz' : (items.push x).size ≤ sizeLine + 1 := by rw [Array.size_push]; omega
    wp_walk using (wpAny_updateSeq hl rfl (hz := hs1) (_hz' := hz')), wpAny_loadPart' hl
    exact ⟨_, rfl, h⟩
noncomputable def argV (c : Code) (k : Nat) : Value := (argsOf c).pos.getD k .none
noncomputable def rApp : RuleD where
  D := 950
  U := 9000
  code c es := .builtin (idOf c) ⟨[.ref (ad0 es), argV c 1], []⟩
  objs _ es := [(ad0 es, ob0 es)]
  spec c es := ifId 122627580202994350266018413 c (ifList (ob0 es) (.need ((itemsOf (ob0 es)).length ≤ 1000) (.leaf (fun _ => []) (fun _ => ⟨.res (.ok (.ret .none)), [withItems (ob0 es) (itemsOf (ob0 es) ++ [argV c 1]) (epOf (ob0 es) + 1)], []⟩))))
theorem rApp_ok (prog : Program) (w : World) (kt : Addr → Obj → Prop) : RuleD.Ok prog w kt rApp := by
  intro c es he A R s hA hD hU H hw
  unfold rApp ifId ifList at hw ⊢
  dsimp only at hw ⊢
  split at hw
  · rename_i hid
    have hid := eqLit_is "list.append" (by decide +kernel) hid
    split at hw
    · rename_i h1
      split at hw
      · rename_i h2
        have ho := list_is (t := "list") (by decide +kernel) h1 h2
        obtain ⟨hn, hw⟩ := hw
        rw [hid]
        refine codeAny_builtin PySem.F.entry_list_append ?_
        rw [Around.under_plainId (by decide +kernel) _]
        have hes : es = [(ad0 es, ob0 es)] := he
        have st := H
        rw [hes] at st
        generalize argV c 1 = v at *
        generalize ob0 es = o at *
        generalize ad0 es = a at *
        have hsz : (Array.mk (itemsOf o)).size ≤ sizeLine := by
          show (itemsOf o).length ≤ sizeLine
          rw [sizeLine_eq]; omega
        have M := meets_append a (Array.mk (itemsOf o)) (epOf o) v hsz
        refine meets_use M prog w A R s (And.intro ?_ ?_)
        · rw [← ho]; exact (st.own _ List.mem_cons_self).1
        · have e := ends_update1 (e := .res (.ok (.ret .none))) (f := Obj.mapSeq fun xs => xs.push v) st (by rw [ho]; rfl)
          have ef : Obj.mapSeq (fun xs => xs.push v) o = withItems o (itemsOf o ++ [v]) (epOf o + 1) := by
            rw [ho]
            unfold withItems Obj.mapSeq
            have e1 : (Array.mk (itemsOf o)).push v = Array.mk (itemsOf o ++ [v]) := by
              apply Array.ext'
              simp
            dsimp only
            rw [e1]
            have : ((itemsOf o ++ [v]).length == (itemsOf o).length) = false := by
              rw [List.length_append, beq_eq_false_iff_ne, List.length_singleton]
              omega
            show ({ cls := _, dict := _, data := .seq _ (if ((itemsOf o ++ [v]).length == (itemsOf o).length) then _ else _), slots := _ } : Obj) = _
            rw [this]
            rfl
          rw [ef] at e
          exact hw [] _ s.toks (by rw [hes]; exact e)
      · cases hw
    · cases hw
  · cases hw

/-- words: a text and its token -/
noncomputable abbrev WV := Str × Tok
noncomputable def wv (p : WV) : Value := .str p.1 p.2
noncomputable def wordsOf? : List Value → Option (List WV)
  | [] => some []
  | v :: l => match v with
    | .str s t => match wordsOf? l with
      | some r => some ((s, t) :: r)
      | none => none
    | _ => none
theorem wordsOf_is : ∀ {l : List Value} {r : List WV}, wordsOf? l = some r → l = r.map wv
  | [], _, h => by cases h; rfl
  | v :: l, r, h => by
    unfold wordsOf? at h
    cases v with
    | str s t =>
      dsimp only at h
      cases q : wordsOf? l with
      | none => rw [q] at h; cases h
      | some r' =>
        rw [q] at h
        cases h
        rw [wordsOf_is q]
        rfl
    | _ => cases h
/-- the item at a place that is not written -/
noncomputable def selA (d : WV) : List WV → Nat → WV
  | [], _ => d
  | x :: l, j => (match Nat.beq j 0 with | true => x.1 | false => (selA d l (j - 1)).1, match Nat.beq j 0 with | true => x.2 | false => (selA d l (j - 1)).2)
noncomputable def delA : List WV → Nat → List WV
  | [], _ => []
  | x :: l, j => match l with
    | [] => []
    | y :: _ => (match Nat.beq j 0 with | true => y.1 | false => x.1, match Nat.beq j 0 with | true => y.2 | false => x.2) :: delA l (j - 1)
noncomputable def insA (x : WV) : List WV → Nat → List WV
  | [], _ => [x]
  | y :: l, j => (match Nat.beq j 0 with | true => x.1 | false => y.1, match Nat.beq j 0 with | true => x.2 | false => y.2) :: insA (match Nat.beq j 0 with | true => y.1 | false => x.1, match Nat.beq j 0 with | true => y.2 | false => x.2) l (j - 1)
theorem selA_is (d : WV) : ∀ (l : List WV) (j : Nat), j < l.length → l[j]? = some (selA d l j)
  | [], j, h => by simp at h
  | x :: l, 0, _ => by simp [selA]
  | x :: l, j + 1, h => by
    have := selA_is d l j (by simpa using h)
    rw [List.getElem?_cons_succ, this]
    rfl
theorem delA_is : ∀ (l : List WV) (j : Nat), j < l.length → delA l j = l.eraseIdx j
  | [], j, h => by simp at h
  | [x], j, h => by
    have : j = 0 := by simp at h; exact h
    subst this
    rfl
  | x :: y :: l, 0, _ => by
    have := delA_is (y :: l) 0 (by simp)
    show (y.1, y.2) :: delA (y :: l) 0 = y :: l
    rw [this]
    rfl
  | x :: y :: l, j + 1, h => by
    have := delA_is (y :: l) j (by simpa using h)
    show (x.1, x.2) :: delA (y :: l) j = x :: (y :: l).eraseIdx j
    rw [this]
theorem insA_is (x : WV) : ∀ (l : List WV) (j : Nat), insA x l j = l.take j ++ x :: l.drop j
  | [], j => by simp [insA]
  | y :: l, 0 => by
    have := insA_is y l 0
    show (x.1, x.2) :: insA (y.1, y.2) l 0 = _
    rw [this]
    simp
  | y :: l, j + 1 => by
    have := insA_is x l j
    show (y.1, y.2) :: insA (x.1, x.2) l j = _
    rw [this]
    simp
theorem map_erase {α β : Type} (f : α → β) : ∀ (l : List α) (k : Nat), (l.eraseIdx k).map f = (l.map f).eraseIdx k
  | [], k => by simp
  | x :: l, 0 => by simp
  | x :: l, k + 1 => by simp [map_erase f l k]
noncomputable def rPopS : RuleD where
  D := 900
  U := 9000
  code c es := .builtin (idOf c) ⟨[.ref (ad0 es), .int (Int.ofNat (argI c 1).toNat) (argT c 1)], []⟩
  objs _ es := [(ad0 es, ob0 es)]
  spec c es := ifId 8174157772325415533 c (ifList (ob0 es) (match wordsOf? (itemsOf (ob0 es)) with
    | some r => .need ((argI c 1).toNat < r.length) (.need (r.length ≤ 1000) (.leaf (fun _ => []) (fun _ => ⟨.res (.ok (.ret (wv (selA (default, 0) r (argI c 1).toNat)))), [withItems (ob0 es) ((delA r (argI c 1).toNat).map wv) (epOf (ob0 es) + 1)], []⟩)))
    | none => .stop 205))
/-- list.pop of a place that stands -/
theorem pop_code {prog : Program} {w : World} {kt : Addr → Obj → Prop} {A : Around} {R : Result → Shared → Prop} {s : Shared} {a : Addr} {o : Obj} {k : Nat} {u : Tok} {y : Value} {q : List Value} (st : Start kt s.heap [(a, o)])
    (ho : o = { cls := .type "list", dict := none, data := .seq (Array.mk (itemsOf o)) (epOf o), slots := #[] }) (hn : (itemsOf o).length ≤ 1000) (p1 : (itemsOf o)[k]? = some y) (p2 : q = (itemsOf o).eraseIdx k)
    (hw : Ends kt [a] s.heap (s.heap.update a (Obj.mapSeq fun xs => xs.eraseIdxIfInBounds k)) ⟨.res (.ok (.ret y)), [withItems o q (epOf o + 1)], []⟩ → R (.ok (.ret y)) { s with heap := s.heap.update a (Obj.mapSeq fun xs => xs.eraseIdxIfInBounds k) }) :
    codeAny (model prog w) A (.builtin "list.pop" ⟨[.ref a, .int (Int.ofNat k) u], []⟩) R s := by
  have p3 : k < (itemsOf o).length := (List.getElem?_eq_some_iff.mp p1).1
  refine codeAny_builtin PySem.F.entry_list_pop ?_
  rw [Around.under_plainId (by decide +kernel) _]
  have hk : seqIndex? (Int.ofNat k) (Array.mk (itemsOf o)).size = some k := by
    show seqIndex? (Int.ofNat k) (itemsOf o).length = some k
    unfold seqIndex?
    rw [show Int.ofNat k = (k : Int) from rfl]
    have h1 : ¬ ((k : Int) < 0) := by omega
    rw [if_neg h1]
    have h2 : (decide (0 ≤ (k : Int)) && decide ((k : Int) < ((itemsOf o).length : Int))) = true := by
      rw [Bool.and_eq_true]; constructor <;> (rw [decide_eq_true_eq]; omega)
    rw [if_pos h2]
    rfl
  have hfit : Builtin.List.listFitsIndex (Int.ofNat k) = true := by
    unfold Builtin.List.listFitsIndex
    rw [show Int.ofNat k = (k : Int) from rfl, Bool.and_eq_true]; constructor <;> (rw [decide_eq_true_eq]; omega)
  have hsz : (Array.mk (itemsOf o)).size ≤ sizeLine := by
    show (itemsOf o).length ≤ sizeLine
    rw [sizeLine_eq]; omega
  have hy : (Array.mk (itemsOf o))[k]? = some y := by simpa using p1
  generalize Int.ofNat k = i at *
  have M := @MeetsSeq.list_pop_at a (Array.mk (itemsOf o)) (epOf o) i u k y hfit hk hy hsz
  refine meets_use M prog w A R s (And.intro ?_ ?_)
  · rw [← ho]; exact (st.own _ List.mem_cons_self).1
  · refine hw ?_
    have e := ends_update1 (e := .res (.ok (.ret y))) (f := Obj.mapSeq fun xs => xs.eraseIdxIfInBounds k) st (by rw [ho]; rfl)
    have ef : Obj.mapSeq (fun xs => xs.eraseIdxIfInBounds k) o = withItems o q (epOf o + 1) := by
      rw [ho]
      unfold withItems Obj.mapSeq
      have e1 : (Array.mk (itemsOf o)).eraseIdxIfInBounds k = Array.mk q := by
        unfold Array.eraseIdxIfInBounds
        rw [dif_pos (by exact p3)]
        apply Array.toList_inj.mp
        rw [Array.toList_eraseIdx, p2]
      dsimp only
      rw [e1]
      have : (q.length == (itemsOf o).length) = false := by
        rw [p2, List.length_eraseIdx, if_pos p3, beq_eq_false_iff_ne]
        omega
      show ({ cls := _, dict := _, data := .seq _ (if (q.length == (itemsOf o).length) then _ else _), slots := _ } : Obj) = _
      rw [this]
      rfl
    rw [ef] at e
    exact e
theorem rPopS_ok (prog : Program) (w : World) (kt : Addr → Obj → Prop) : RuleD.Ok prog w kt rPopS := by
  intro c es he A R s hA hD hU H hw
  unfold rPopS ifId ifList at hw ⊢
  dsimp only at hw ⊢
  split at hw
  · rename_i hid
    have hid := eqLit_is "list.pop" (by decide +kernel) hid
    split at hw
    · rename_i h1
      split at hw
      · rename_i h2
        have ho := list_is (t := "list") (by decide +kernel) h1 h2
        split at hw
        · rename_i r hr
          obtain ⟨hk, hn, hw⟩ := hw
          have hi := wordsOf_is hr
          rw [hid]
          have hes : es = [(ad0 es, ob0 es)] := he
          have st := H
          rw [hes] at st
          generalize (argI c 1).toNat = k at *
          generalize ob0 es = o at *
          generalize ad0 es = a at *
          refine pop_code (y := wv (selA (default, 0) r k)) (q := (delA r k).map wv) st ho (by rw [hi, List.length_map]; exact hn) (by rw [hi, List.getElem?_map, selA_is _ r k hk]; rfl) (by rw [hi, delA_is r k hk, map_erase]) fun E => ?_
          exact hw [] _ s.toks (by rw [hes]; exact E)
        · cases hw
      · cases hw
    · cases hw
  · cases hw
noncomputable def rLenS : RuleD where
  D := 950
  U := 9000
  code c _ := .builtin (idOf c) ⟨[.str (argS c 0) (argST c 0)], []⟩
  objs _ _ := []
  spec c _ := ifId 7300717 c (.need ((argS c 0).length ≤ 1000) (.leaf (fun _ => []) (fun ws => ⟨.res (.ok (.ret (.int (Int.ofNat (argS c 0).length) (ws.getD 0 0)))), [], []⟩)))
theorem rLenS_ok (prog : Program) (w : World) (kt : Addr → Obj → Prop) : RuleD.Ok prog w kt rLenS := by
  intro c es he A R s hA hD hU H hw
  unfold rLenS ifId at hw ⊢
  dsimp only at hw ⊢
  have he : es = [] := he
  subst he
  split at hw
  · rename_i hid
    have hid := eqLit_is "len" (by decide +kernel) hid
    obtain ⟨hn, hw⟩ := hw
    rw [hid]
    generalize argS c 0 = x at *
    generalize argST c 0 = t at *
    refine codeAny_builtin entry_len ?_
    rw [Around.under_plainId plain_len _]
    refine wpAny_mono (Q := fun fin s' => ∃ v, fin = .done (.ret v) ∧ v = .int (Int.ofNat x.length) (s.toks + 1) ∧ s' = { s with toks := s.toks + 1 + 1 }) ?_ (fun fin s' h => ?_) (fun _ _ h => h)
    · unfold Builtin.«len»
      refine wpAny_bind (m := oneArg "len" _) (wpAny_pure ?_)
      refine wpAny_bind (m := callSpecial? (.str x t) (Str.ofString "__len__")) (wpAny_callSpecial?_slot (name := Str.ofString "__len__") (typeIs_str s x t) F.slot_str_len
        (call_gives F.slot_str_len (typeIs_str s x t) F.entry_str_len (F.args_str_len_1 _) (gives_str_len x t) ?_))
      show wpAny _ _ _ _ _ { s with toks := s.toks + 1 }
      refine wpAny_bind (wpAny_holding (wpAny_pure ?_))
      refine wpAny_bind (wpAny_letGo ?_)
      show wpAny _ _ (if ((x.length : Nat) : Int) < 0 then _ else _) _ _ _
      rw [if_neg (by omega)]
      show wpAny _ _ (if ((x.length : Nat) : Int) ≥ 2 ^ 63 then _ else _) _ _ _
      rw [if_neg (by omega)]
      exact wpAny_bind (wpAny_mkInt (wpAny_pure ⟨_, rfl, rfl, rfl⟩))
    · obtain ⟨v, rfl, rfl, rfl⟩ := h
      exact hw [s.toks + 1] s.heap (s.toks + 1 + 1) (ends_nil H)
  · cases hw
noncomputable def wvOf (v : Value) : WV := match v with
  | .str s t => (s, t)
  | _ => (default, 0)
noncomputable def rIns : RuleD where
  D := 900
  U := 9000
  code c es := .builtin (idOf c) ⟨[.ref (ad0 es), .int (Int.ofNat (argI c 1).toNat) (argT c 1), wv (wvOf (argV c 2))], []⟩
  objs _ es := [(ad0 es, ob0 es)]
  spec c es := ifId 141989282998378523895556717 c (ifList (ob0 es) (match wordsOf? (itemsOf (ob0 es)) with
    | some r => .need ((argI c 1).toNat ≤ 1000) (.need (r.length ≤ 1000) (.leaf (fun _ => []) (fun _ => ⟨.res (.ok (.ret .none)), [withItems (ob0 es) ((insA (wvOf (argV c 2)) r (argI c 1).toNat).map wv) (epOf (ob0 es) + 1)], []⟩)))
    | none => .stop 206))
theorem rIns_ok (prog : Program) (w : World) (kt : Addr → Obj → Prop) : RuleD.Ok prog w kt rIns := by
  intro c es he A R s hA hD hU H hw
  unfold rIns ifId ifList at hw ⊢
  dsimp only at hw ⊢
  split at hw
  · rename_i hid
    have hid := eqLit_is "list.insert" (by decide +kernel) hid
    split at hw
    · rename_i h1
      split at hw
      · rename_i h2
        have ho := list_is (t := "list") (by decide +kernel) h1 h2
        split at hw
        · rename_i r hr
          obtain ⟨hk, hn, hw⟩ := hw
          have hi := wordsOf_is hr
          rw [hid]
          have hes : es = [(ad0 es, ob0 es)] := he
          have st := H
          rw [hes] at st
          generalize (argI c 1).toNat = k at *
          generalize ob0 es = o at *
          generalize ad0 es = a at *
          generalize wvOf (argV c 2) = v at *
          generalize argT c 1 = u at *
          refine codeAny_builtin F.entry_list_insert ?_
          rw [Around.under_plainId (by decide +kernel) _]
          have hfit : ¬ (!Builtin.List.listFitsIndex (Int.ofNat k)) = true := by
            unfold Builtin.List.listFitsIndex
            rw [show Int.ofNat k = (k : Int) from rfl]
            have : (decide (-(2 ^ 63 : Int) ≤ (k : Int)) && decide ((k : Int) < 2 ^ 63)) = true := by
              rw [Bool.and_eq_true]; constructor <;> (rw [decide_eq_true_eq]; omega)
            rw [this]; decide
          have hsz : (Array.mk (itemsOf o)).size ≤ sizeLine := by
            show (itemsOf o).length ≤ sizeLine
            rw [hi, List.length_map, sizeLine_eq]; omega
          have hi0 : ¬ (Int.ofNat k < 0) := by rw [show Int.ofNat k = (k : Int) from rfl]; omega
          have hit : (Int.ofNat k).toNat = k := rfl
          generalize Int.ofNat k = i at *
          have M := AutoSeq1.list_insert_list_int_val_1 a (Array.mk (itemsOf o)) (epOf o) i u (wv v) hfit hsz
          refine meets_use M prog w A R s (And.intro ?_ ?_)
          · rw [← ho]; exact (st.own _ List.mem_cons_self).1
          · have e := ends_update1 (e := .res (.ok (.ret .none))) (f := Obj.mapSeq fun xs => have k := if i < 0 then (i + (xs.size : Int)).toNat else min i.toNat xs.size; (xs.extract 0 k).push (wv v) ++ xs.extract k) st (by rw [ho]; rfl)
            have ef : Obj.mapSeq (fun xs => have k := if i < 0 then (i + (xs.size : Int)).toNat else min i.toNat xs.size; (xs.extract 0 k).push (wv v) ++ xs.extract k) o = withItems o ((insA v r k).map wv) (epOf o + 1) := by
              rw [ho]
              unfold withItems Obj.mapSeq
              have e1 : (have k := if i < 0 then (i + (((Array.mk (itemsOf o)).size : Nat) : Int)).toNat else min i.toNat (Array.mk (itemsOf o)).size; ((Array.mk (itemsOf o)).extract 0 k).push (wv v) ++ (Array.mk (itemsOf o)).extract k) = Array.mk ((insA v r k).map wv) := by
                rw [if_neg hi0, hit]
                apply Array.ext'
                rw [insA_is]
                show ((Array.mk (itemsOf o)).extract 0 (min k (itemsOf o).length) |>.push (wv v) |>.append ((Array.mk (itemsOf o)).extract (min k (itemsOf o).length) (itemsOf o).length)).toList = _
                have hlen : (itemsOf o).length = r.length := by rw [hi, List.length_map]
                simp only [Array.append_eq_append, Array.toList_append, Array.toList_push, Array.toList_extract, List.extract_eq_take_drop, List.drop_zero, Nat.sub_zero, List.map_append, List.map_take, List.map_cons, List.map_drop, ← hi]
                rw [List.append_assoc]
                have e3 : List.take (min k (itemsOf o).length) (itemsOf o) = List.take k (itemsOf o) := by
                  by_cases q : k ≤ (itemsOf o).length
                  · rw [Nat.min_eq_left q]
                  · rw [Nat.min_eq_right (by omega), List.take_length, List.take_of_length_le (by omega)]
                have e4 : List.take ((itemsOf o).length - min k (itemsOf o).length) (List.drop (min k (itemsOf o).length) (itemsOf o)) = List.drop k (itemsOf o) := by
                  by_cases q : k ≤ (itemsOf o).length
                  · rw [Nat.min_eq_left q, List.take_of_length_le (by rw [List.length_drop]; exact Nat.le_refl _)]
                  · rw [Nat.min_eq_right (by omega), List.drop_length, List.drop_of_length_le (by omega)]; simp
                rw [e3, e4]
                rfl
              dsimp only at e1 ⊢
              rw [e1]
              have : (((insA v r k).map wv).length == (itemsOf o).length) = false := by
                rw [List.length_map, insA_is, hi, List.length_map, beq_eq_false_iff_ne]
                simp only [List.length_append, List.length_take, List.length_cons, List.length_drop]
                omega
              show ({ cls := _, dict := _, data := .seq _ (if (((insA v r k).map wv).length == (itemsOf o).length) then _ else _), slots := _ } : Obj) = _
              rw [this]
              rfl
            rw [ef] at e
            exact hw [] _ s.toks (by rw [hes]; exact e)
        · cases hw
      · cases hw
    · cases hw
  · cases hw
noncomputable def rDiv : RuleD where
  D := 950
  U := 9000
  code c _ := .builtin (idOf c) ⟨[.int (Int.ofNat (argI c 0).toNat) (argT c 0), .int 2 (argT c 1)], []⟩
  objs _ _ := []
  spec c _ := ifId 128106770130096871752080967664072486762 c (.need ((argI c 0).toNat ≤ 1000) (.leaf (fun _ => []) (fun ws => ⟨.res (.ok (.ret (.int (Int.ofNat ((argI c 0).toNat / 2)) (ws.getD 0 0)))), [], []⟩)))
theorem rDiv_ok (prog : Program) (w : World) (kt : Addr → Obj → Prop) : RuleD.Ok prog w kt rDiv := by
  intro c es he A R s hA hD hU H hw
  unfold rDiv ifId at hw ⊢
  dsimp only at hw ⊢
  have he : es = [] := he
  subst he
  split at hw
  · rename_i hid
    have hid := eqLit_is "int.__floordiv__" (by decide +kernel) hid
    obtain ⟨hn, hw⟩ := hw
    rw [hid]
    generalize (argI c 0).toNat = k at *
    have hdiv : (Int.ofNat k).fdiv 2 = Int.ofNat (k / 2) := by
      rw [Int.fdiv_eq_ediv_of_nonneg _ (by decide)]
      show (k : Int) / 2 = ((k / 2 : Nat) : Int)
      omega
    rw [← hdiv] at hw
    generalize Int.ofNat k = i at *
    refine code_of_gives F.entry_int_floordiv (by decide +kernel) (AutoIntG4.int___floordiv___int_int_1 i (argT c 0) 2 (argT c 1) (by decide) (by rw [PyProof.noPylong_small (by decide)]; decide)) ?_
    exact hw [s.toks] s.heap (s.toks + 1) (ends_nil H)
  · cases hw
end Mine

namespace Mine
open PySem PySem.Spec PySem.Calls PyProof.Rows PySem.W PySem.W.X

noncomputable def lenB : Value := .builtin (S.litE [S.mk8 108 rfl, S.mk8 101 rfl, S.mk8 110 rfl] [108, 101, 110] rfl rfl)
noncomputable def kwKey : List (Str × Value) := [((sl [107, 101, 121]), lenB)]
noncomputable def witI (L : Leaf) : List Nat := match L.e with
  | .res (.ok (.ret v)) => [tokOf (some v)]
  | _ => []
/-- binary search, by the answers to the questions «less than the item?» -/
noncomputable def bisT (f : Nat → Bool) : Nat → Nat → Nat → Nat
  | 0, lo, _ => lo
  | n + 1, lo, hi => match Nat.blt lo hi with
    | true => match f ((lo + hi) / 2) with
      | true => bisT f n lo ((lo + hi) / 2)
      | false => bisT f n ((lo + hi) / 2 + 1) hi
    | false => lo
noncomputable def askT (f : Nat → Bool) (p : Nat → Prop) (K : Nat → Spec) : Nat → Nat → Nat → Spec
  | 0, lo, _ => K lo
  | n + 1, lo, hi => match Nat.blt lo hi with
    | true => .need (lo + hi ≤ 1000) (.need (p ((lo + hi) / 2)) (.ask (f ((lo + hi) / 2)) (askT f p K n lo ((lo + hi) / 2)) (askT f p K n ((lo + hi) / 2 + 1) hi)))
    | false => K lo
theorem askT_of {V : BV} {f : Nat → Bool} {p : Nat → Prop} {K : Nat → Spec} (hp : ∀ i, p i) : ∀ (n lo hi : Nat), hi ≤ 500 → wpS V (K (bisT f n lo hi)) → wpS V (askT f p K n lo hi)
  | 0, lo, hi, _, h => h
  | n + 1, lo, hi, hh, h => by
    unfold askT
    unfold bisT at h
    cases q : Nat.blt lo hi with
    | false => rw [q] at h; exact h
    | true =>
      rw [q] at h
      dsimp only at h ⊢
      have hl : lo < hi := Nat.le_of_ble_eq_true q
      refine ⟨by omega, hp _, fun e => ?_, fun e => ?_⟩
      · rw [e] at h; exact askT_of hp n _ _ (by omega) h
      · rw [e] at h; exact askT_of hp n _ _ hh h
noncomputable def nthW (l : List WV) (i : Nat) : WV := l.getD i (default, 0)
noncomputable def qf (n : Nat) (l : List WV) (i : Nat) : Bool := decide (Int.ofNat n < Int.ofNat (nthW l i).1.length)
noncomputable def qp (l : List WV) (i : Nat) : Prop := (nthW l i).1.length ≤ 1000
/-- the place that bisect_right tells for a length among words -/
noncomputable def bisW (l : List WV) (n : Nat) : Nat := bisT (qf n l) 8 0 l.length
noncomputable abbrev cIS (a : Addr) (x : WV) : Code := .call (.ref 47) ⟨[.ref a, wv x], kwKey⟩
noncomputable abbrev cBI (a : Addr) (n : Nat) (t : Tok) : Code := .call (.ref 56) ⟨[.ref a, .int (Int.ofNat n) t], kwKey⟩
noncomputable def isRaw (x : WV) (l : List WV) (e : Nat) : Spec :=
  .need (x.1.length ≤ 1000) (.need ((l.map wv).length ≤ 1000) (askT (qf x.1.length l) (qp l) (fun j => .need (j ≤ 1000) (.need (l.length ≤ 1000) (.leaf (fun _ => []) (fun _ => ⟨.res (.ok (.ret .none)), [oList ((insA x l j).map wv) (e + 1)], []⟩)))) 8 0 l.length))
noncomputable def biRaw (n : Nat) (l : List WV) (e : Nat) : Spec :=
  .need ((l.map wv).length ≤ 1000) (askT (qf n l) (qp l) (fun j => .leaf witI (fun ws => ⟨.res (.ok (.ret (.int (Int.ofNat j) (ws.getD 0 0)))), [oList (l.map wv) e], []⟩)) 8 0 l.length)
noncomputable def rulesD : List RuleD := [rPop, rLen, rLenS, rApp, rPopS, rIns, rLt, rDiv]
theorem rulesD_ok (prog : Program) (w : World) (kt : Addr → Obj → Prop) : ∀ r ∈ rulesD, RuleD.Ok prog w kt r := by
  intro r hr
  simp only [rulesD, List.mem_cons, List.not_mem_nil, or_false] at hr
  rcases hr with rfl | rfl | rfl | rfl | rfl | rfl | rfl | rfl
  · exact rPop_ok _ _ _
  · exact rLen_ok _ _ _
  · exact rLenS_ok _ _ _
  · exact rApp_ok _ _ _
  · exact rPopS_ok _ _ _
  · exact rIns_ok _ _ _
  · exact rLt_ok _ _ _
  · exact rDiv_ok _ _ _
noncomputable def tgIS0 : Tg := (gl g0 [1, 0, 0, 0, 2, 2, 2, 2, 2, 2, 2, 2, 2, 2, 2, 0, 2, 2, 2, 0, 5, 0, 2, 2, 2, 0, 1, 0, 0, 0, 3, 3, 3, 3, 3, 3, 3, 3, 3, 3, 3, 0, 0, 3, 0, 0, 3, 0, 4, 1, 0, 3, 3, 3, 0, 3, 3, 0, 0, 3, 2, 2, 2, 1, 1, 1, 1, 2, 2, 0, 1, 8, 1, 0])
noncomputable def tgBI0 : Tg := (gl g0 [1, 0, 0, 0, 2, 2, 2, 2, 2, 2, 2, 2, 2, 2, 2, 0, 0, 2, 0, 0, 2, 0, 4, 1, 0, 2, 2, 2, 0, 2, 2, 0, 0, 2])
set_option maxHeartbeats 0 in
theorem is_chk0 (P : Params) (b1 b2 : Bool) (a : Addr) (x : WV) (e N tk : Nat) : (chkOf P b1 b2 rulesD (cIS a x) 342 3950 [(a, oList (([] : List WV).map wv) e)] N tk tgIS0 (isRaw x [] e)).lhs = (chkOf P b1 b2 rulesD (cIS a x) 342 3950 [(a, oList (([] : List WV).map wv) e)] N tk tgIS0 (isRaw x [] e)).rhs := by
  cases b1 <;> kernel_rfl
set_option maxHeartbeats 0 in
theorem bi_chk0 (P : Params) (b1 b2 : Bool) (a : Addr) (n : Nat) (t : Tok) (e N tk : Nat) : (chkOf P b1 b2 rulesD (cBI a n t) 342 3950 [(a, oList (([] : List WV).map wv) e)] N tk tgBI0 (biRaw n [] e)).lhs = (chkOf P b1 b2 rulesD (cBI a n t) 342 3950 [(a, oList (([] : List WV).map wv) e)] N tk tgBI0 (biRaw n [] e)).rhs := by
  cases b1 <;> kernel_rfl
noncomputable def tgIS1 : Tg := (gl (gf (gl g0 [3, 3, 3, 0, 3, 3, 0, 0, 3, 2, 2, 2, 1, 1, 1, 1, 2, 2, 0, 1, 8, 1, 0]) (gl g0 [3, 0, 0, 3, 3, 0, 3, 3, 0, 0, 3, 2, 2, 2, 1, 1, 1, 1, 2, 2, 0, 1, 8, 1, 0])) [1, 0, 0, 0, 2, 2, 2, 2, 2, 2, 2, 2, 2, 2, 2, 0, 2, 2, 2, 0, 5, 0, 2, 2, 2, 0, 1, 0, 0, 0, 3, 3, 3, 3, 3, 3, 3, 3, 3, 3, 3, 0, 0, 3, 0, 0, 3, 0, 4, 1, 0, 3, 3, 3, 0, 3, 3, 0, 0, 3, 3, 0, 0, 0, 10, 0, 3, 3, 3, 3, 3, 3, 1, 1, 1, 0, 1, 0, 1, 0, 5, 0, 0, 9, 0])
noncomputable def tgBI1 : Tg := (gl (gf (gl g0 [2, 2, 2, 0, 2, 2, 0, 0, 2]) (gl g0 [2, 0, 0, 2, 2, 0, 2, 2, 0, 0, 2])) [1, 0, 0, 0, 2, 2, 2, 2, 2, 2, 2, 2, 2, 2, 2, 0, 0, 2, 0, 0, 2, 0, 4, 1, 0, 2, 2, 2, 0, 2, 2, 0, 0, 2, 2, 0, 0, 0, 10, 0, 2, 2, 2, 2, 2, 2, 1, 1, 1, 0, 1, 0, 1, 0, 5, 0, 0, 9, 0])
set_option maxHeartbeats 0 in
theorem is_chk1 (P : Params) (b1 b2 : Bool) (a : Addr) (x : WV) (p0 : WV) (e N tk : Nat) : (chkOf P b1 b2 rulesD (cIS a x) 342 3950 [(a, oList (([p0] : List WV).map wv) e)] N tk tgIS1 (isRaw x [p0] e)).lhs = (chkOf P b1 b2 rulesD (cIS a x) 342 3950 [(a, oList (([p0] : List WV).map wv) e)] N tk tgIS1 (isRaw x [p0] e)).rhs := by
  cases b1 <;> kernel_rfl
set_option maxHeartbeats 0 in
theorem bi_chk1 (P : Params) (b1 b2 : Bool) (a : Addr) (n : Nat) (t : Tok) (p0 : WV) (e N tk : Nat) : (chkOf P b1 b2 rulesD (cBI a n t) 342 3950 [(a, oList (([p0] : List WV).map wv) e)] N tk tgBI1 (biRaw n [p0] e)).lhs = (chkOf P b1 b2 rulesD (cBI a n t) 342 3950 [(a, oList (([p0] : List WV).map wv) e)] N tk tgBI1 (biRaw n [p0] e)).rhs := by
  cases b1 <;> kernel_rfl
noncomputable def tgIS2 : Tg := (gl (gf (gl (gf (gl g0 [3, 3, 3, 0, 3, 3, 0, 0, 3, 2, 2, 2, 1, 1, 1, 1, 2, 2, 0, 1, 8, 1, 0]) (gl g0 [3, 0, 0, 3, 3, 0, 3, 3, 0, 0, 3, 2, 2, 2, 1, 1, 1, 1, 2, 2, 0, 1, 8, 1, 0])) [3, 3, 3, 0, 3, 3, 0, 0, 3, 3, 0, 0, 0, 10, 0, 3, 3, 3, 3, 3, 3, 1, 1, 1, 0, 1, 0, 1, 0, 5, 0, 0, 9, 0]) (gl g0 [3, 0, 0, 3, 3, 0, 3, 3, 0, 0, 3, 2, 2, 2, 1, 1, 1, 1, 2, 2, 0, 1, 8, 1, 0])) [1, 0, 0, 0, 2, 2, 2, 2, 2, 2, 2, 2, 2, 2, 2, 0, 2, 2, 2, 0, 5, 0, 2, 2, 2, 0, 1, 0, 0, 0, 3, 3, 3, 3, 3, 3, 3, 3, 3, 3, 3, 0, 0, 3, 0, 0, 3, 0, 4, 1, 0, 3, 3, 3, 0, 3, 3, 0, 0, 3, 3, 0, 0, 0, 10, 0, 3, 3, 3, 3, 3, 3, 1, 1, 1, 0, 1, 0, 1, 0, 5, 0, 0, 9, 0])
noncomputable def tgBI2 : Tg := (gl (gf (gl (gf (gl g0 [2, 2, 2, 0, 2, 2, 0, 0, 2]) (gl g0 [2, 0, 0, 2, 2, 0, 2, 2, 0, 0, 2])) [2, 2, 2, 0, 2, 2, 0, 0, 2, 2, 0, 0, 0, 10, 0, 2, 2, 2, 2, 2, 2, 1, 1, 1, 0, 1, 0, 1, 0, 5, 0, 0, 9, 0]) (gl g0 [2, 0, 0, 2, 2, 0, 2, 2, 0, 0, 2])) [1, 0, 0, 0, 2, 2, 2, 2, 2, 2, 2, 2, 2, 2, 2, 0, 0, 2, 0, 0, 2, 0, 4, 1, 0, 2, 2, 2, 0, 2, 2, 0, 0, 2, 2, 0, 0, 0, 10, 0, 2, 2, 2, 2, 2, 2, 1, 1, 1, 0, 1, 0, 1, 0, 5, 0, 0, 9, 0])
set_option maxHeartbeats 0 in
theorem is_chk2 (P : Params) (b1 b2 : Bool) (a : Addr) (x : WV) (p0 p1 : WV) (e N tk : Nat) : (chkOf P b1 b2 rulesD (cIS a x) 342 3950 [(a, oList (([p0, p1] : List WV).map wv) e)] N tk tgIS2 (isRaw x [p0, p1] e)).lhs = (chkOf P b1 b2 rulesD (cIS a x) 342 3950 [(a, oList (([p0, p1] : List WV).map wv) e)] N tk tgIS2 (isRaw x [p0, p1] e)).rhs := by
  cases b1 <;> kernel_rfl
set_option maxHeartbeats 0 in
theorem bi_chk2 (P : Params) (b1 b2 : Bool) (a : Addr) (n : Nat) (t : Tok) (p0 p1 : WV) (e N tk : Nat) : (chkOf P b1 b2 rulesD (cBI a n t) 342 3950 [(a, oList (([p0, p1] : List WV).map wv) e)] N tk tgBI2 (biRaw n [p0, p1] e)).lhs = (chkOf P b1 b2 rulesD (cBI a n t) 342 3950 [(a, oList (([p0, p1] : List WV).map wv) e)] N tk tgBI2 (biRaw n [p0, p1] e)).rhs := by
  cases b1 <;> kernel_rfl
noncomputable def tgIS3 : Tg := (gl (gf (gl (gf (gl g0 [3, 3, 3, 0, 3, 3, 0, 0, 3, 2, 2, 2, 1, 1, 1, 1, 2, 2, 0, 1, 8, 1, 0]) (gl g0 [3, 0, 0, 3, 3, 0, 3, 3, 0, 0, 3, 2, 2, 2, 1, 1, 1, 1, 2, 2, 0, 1, 8, 1, 0])) [3, 3, 3, 0, 3, 3, 0, 0, 3, 3, 0, 0, 0, 10, 0, 3, 3, 3, 3, 3, 3, 1, 1, 1, 0, 1, 0, 1, 0, 5, 0, 0, 9, 0]) (gl (gf (gl g0 [3, 3, 3, 0, 3, 3, 0, 0, 3, 2, 2, 2, 1, 1, 1, 1, 2, 2, 0, 1, 8, 1, 0]) (gl g0 [3, 0, 0, 3, 3, 0, 3, 3, 0, 0, 3, 2, 2, 2, 1, 1, 1, 1, 2, 2, 0, 1, 8, 1, 0])) [3, 0, 0, 3, 3, 0, 3, 3, 0, 0, 3, 3, 0, 0, 0, 10, 0, 3, 3, 3, 3, 3, 3, 1, 1, 1, 0, 1, 0, 1, 0, 5, 0, 0, 9, 0])) [1, 0, 0, 0, 2, 2, 2, 2, 2, 2, 2, 2, 2, 2, 2, 0, 2, 2, 2, 0, 5, 0, 2, 2, 2, 0, 1, 0, 0, 0, 3, 3, 3, 3, 3, 3, 3, 3, 3, 3, 3, 0, 0, 3, 0, 0, 3, 0, 4, 1, 0, 3, 3, 3, 0, 3, 3, 0, 0, 3, 3, 0, 0, 0, 10, 0, 3, 3, 3, 3, 3, 3, 1, 1, 1, 0, 1, 0, 1, 0, 5, 0, 0, 9, 0])
noncomputable def tgBI3 : Tg := (gl (gf (gl (gf (gl g0 [2, 2, 2, 0, 2, 2, 0, 0, 2]) (gl g0 [2, 0, 0, 2, 2, 0, 2, 2, 0, 0, 2])) [2, 2, 2, 0, 2, 2, 0, 0, 2, 2, 0, 0, 0, 10, 0, 2, 2, 2, 2, 2, 2, 1, 1, 1, 0, 1, 0, 1, 0, 5, 0, 0, 9, 0]) (gl (gf (gl g0 [2, 2, 2, 0, 2, 2, 0, 0, 2]) (gl g0 [2, 0, 0, 2, 2, 0, 2, 2, 0, 0, 2])) [2, 0, 0, 2, 2, 0, 2, 2, 0, 0, 2, 2, 0, 0, 0, 10, 0, 2, 2, 2, 2, 2, 2, 1, 1, 1, 0, 1, 0, 1, 0, 5, 0, 0, 9, 0])) [1, 0, 0, 0, 2, 2, 2, 2, 2, 2, 2, 2, 2, 2, 2, 0, 0, 2, 0, 0, 2, 0, 4, 1, 0, 2, 2, 2, 0, 2, 2, 0, 0, 2, 2, 0, 0, 0, 10, 0, 2, 2, 2, 2, 2, 2, 1, 1, 1, 0, 1, 0, 1, 0, 5, 0, 0, 9, 0])
set_option maxHeartbeats 0 in
theorem is_chk3 (P : Params) (b1 b2 : Bool) (a : Addr) (x : WV) (p0 p1 p2 : WV) (e N tk : Nat) : (chkOf P b1 b2 rulesD (cIS a x) 342 3950 [(a, oList (([p0, p1, p2] : List WV).map wv) e)] N tk tgIS3 (isRaw x [p0, p1, p2] e)).lhs = (chkOf P b1 b2 rulesD (cIS a x) 342 3950 [(a, oList (([p0, p1, p2] : List WV).map wv) e)] N tk tgIS3 (isRaw x [p0, p1, p2] e)).rhs := by
  cases b1 <;> kernel_rfl
set_option maxHeartbeats 0 in
theorem bi_chk3 (P : Params) (b1 b2 : Bool) (a : Addr) (n : Nat) (t : Tok) (p0 p1 p2 : WV) (e N tk : Nat) : (chkOf P b1 b2 rulesD (cBI a n t) 342 3950 [(a, oList (([p0, p1, p2] : List WV).map wv) e)] N tk tgBI3 (biRaw n [p0, p1, p2] e)).lhs = (chkOf P b1 b2 rulesD (cBI a n t) 342 3950 [(a, oList (([p0, p1, p2] : List WV).map wv) e)] N tk tgBI3 (biRaw n [p0, p1, p2] e)).rhs := by
  cases b1 <;> kernel_rfl
noncomputable def tgIS4 : Tg := (gl (gf (gl (gf (gl (gf (gl g0 [3, 3, 3, 0, 3, 3, 0, 0, 3, 2, 2, 2, 1, 1, 1, 1, 2, 2, 0, 1, 8, 1, 0]) (gl g0 [3, 0, 0, 3, 3, 0, 3, 3, 0, 0, 3, 2, 2, 2, 1, 1, 1, 1, 2, 2, 0, 1, 8, 1, 0])) [3, 3, 3, 0, 3, 3, 0, 0, 3, 3, 0, 0, 0, 10, 0, 3, 3, 3, 3, 3, 3, 1, 1, 1, 0, 1, 0, 1, 0, 5, 0, 0, 9, 0]) (gl g0 [3, 0, 0, 3, 3, 0, 3, 3, 0, 0, 3, 2, 2, 2, 1, 1, 1, 1, 2, 2, 0, 1, 8, 1, 0])) [3, 3, 3, 0, 3, 3, 0, 0, 3, 3, 0, 0, 0, 10, 0, 3, 3, 3, 3, 3, 3, 1, 1, 1, 0, 1, 0, 1, 0, 5, 0, 0, 9, 0]) (gl (gf (gl g0 [3, 3, 3, 0, 3, 3, 0, 0, 3, 2, 2, 2, 1, 1, 1, 1, 2, 2, 0, 1, 8, 1, 0]) (gl g0 [3, 0, 0, 3, 3, 0, 3, 3, 0, 0, 3, 2, 2, 2, 1, 1, 1, 1, 2, 2, 0, 1, 8, 1, 0])) [3, 0, 0, 3, 3, 0, 3, 3, 0, 0, 3, 3, 0, 0, 0, 10, 0, 3, 3, 3, 3, 3, 3, 1, 1, 1, 0, 1, 0, 1, 0, 5, 0, 0, 9, 0])) [1, 0, 0, 0, 2, 2, 2, 2, 2, 2, 2, 2, 2, 2, 2, 0, 2, 2, 2, 0, 5, 0, 2, 2, 2, 0, 1, 0, 0, 0, 3, 3, 3, 3, 3, 3, 3, 3, 3, 3, 3, 0, 0, 3, 0, 0, 3, 0, 4, 1, 0, 3, 3, 3, 0, 3, 3, 0, 0, 3, 3, 0, 0, 0, 10, 0, 3, 3, 3, 3, 3, 3, 1, 1, 1, 0, 1, 0, 1, 0, 5, 0, 0, 9, 0])
noncomputable def tgBI4 : Tg := (gl (gf (gl (gf (gl (gf (gl g0 [2, 2, 2, 0, 2, 2, 0, 0, 2]) (gl g0 [2, 0, 0, 2, 2, 0, 2, 2, 0, 0, 2])) [2, 2, 2, 0, 2, 2, 0, 0, 2, 2, 0, 0, 0, 10, 0, 2, 2, 2, 2, 2, 2, 1, 1, 1, 0, 1, 0, 1, 0, 5, 0, 0, 9, 0]) (gl g0 [2, 0, 0, 2, 2, 0, 2, 2, 0, 0, 2])) [2, 2, 2, 0, 2, 2, 0, 0, 2, 2, 0, 0, 0, 10, 0, 2, 2, 2, 2, 2, 2, 1, 1, 1, 0, 1, 0, 1, 0, 5, 0, 0, 9, 0]) (gl (gf (gl g0 [2, 2, 2, 0, 2, 2, 0, 0, 2]) (gl g0 [2, 0, 0, 2, 2, 0, 2, 2, 0, 0, 2])) [2, 0, 0, 2, 2, 0, 2, 2, 0, 0, 2, 2, 0, 0, 0, 10, 0, 2, 2, 2, 2, 2, 2, 1, 1, 1, 0, 1, 0, 1, 0, 5, 0, 0, 9, 0])) [1, 0, 0, 0, 2, 2, 2, 2, 2, 2, 2, 2, 2, 2, 2, 0, 0, 2, 0, 0, 2, 0, 4, 1, 0, 2, 2, 2, 0, 2, 2, 0, 0, 2, 2, 0, 0, 0, 10, 0, 2, 2, 2, 2, 2, 2, 1, 1, 1, 0, 1, 0, 1, 0, 5, 0, 0, 9, 0])
set_option maxHeartbeats 0 in
theorem is_chk4 (P : Params) (b1 b2 : Bool) (a : Addr) (x : WV) (p0 p1 p2 p3 : WV) (e N tk : Nat) : (chkOf P b1 b2 rulesD (cIS a x) 342 3950 [(a, oList (([p0, p1, p2, p3] : List WV).map wv) e)] N tk tgIS4 (isRaw x [p0, p1, p2, p3] e)).lhs = (chkOf P b1 b2 rulesD (cIS a x) 342 3950 [(a, oList (([p0, p1, p2, p3] : List WV).map wv) e)] N tk tgIS4 (isRaw x [p0, p1, p2, p3] e)).rhs := by
  cases b1 <;> kernel_rfl
set_option maxHeartbeats 0 in
theorem bi_chk4 (P : Params) (b1 b2 : Bool) (a : Addr) (n : Nat) (t : Tok) (p0 p1 p2 p3 : WV) (e N tk : Nat) : (chkOf P b1 b2 rulesD (cBI a n t) 342 3950 [(a, oList (([p0, p1, p2, p3] : List WV).map wv) e)] N tk tgBI4 (biRaw n [p0, p1, p2, p3] e)).lhs = (chkOf P b1 b2 rulesD (cBI a n t) 342 3950 [(a, oList (([p0, p1, p2, p3] : List WV).map wv) e)] N tk tgBI4 (biRaw n [p0, p1, p2, p3] e)).rhs := by
  cases b1 <;> kernel_rfl
noncomputable def tgIS5 : Tg := (gl (gf (gl (gf (gl (gf (gl g0 [3, 3, 3, 0, 3, 3, 0, 0, 3, 2, 2, 2, 1, 1, 1, 1, 2, 2, 0, 1, 8, 1, 0]) (gl g0 [3, 0, 0, 3, 3, 0, 3, 3, 0, 0, 3, 2, 2, 2, 1, 1, 1, 1, 2, 2, 0, 1, 8, 1, 0])) [3, 3, 3, 0, 3, 3, 0, 0, 3, 3, 0, 0, 0, 10, 0, 3, 3, 3, 3, 3, 3, 1, 1, 1, 0, 1, 0, 1, 0, 5, 0, 0, 9, 0]) (gl g0 [3, 0, 0, 3, 3, 0, 3, 3, 0, 0, 3, 2, 2, 2, 1, 1, 1, 1, 2, 2, 0, 1, 8, 1, 0])) [3, 3, 3, 0, 3, 3, 0, 0, 3, 3, 0, 0, 0, 10, 0, 3, 3, 3, 3, 3, 3, 1, 1, 1, 0, 1, 0, 1, 0, 5, 0, 0, 9, 0]) (gl (gf (gl (gf (gl g0 [3, 3, 3, 0, 3, 3, 0, 0, 3, 2, 2, 2, 1, 1, 1, 1, 2, 2, 0, 1, 8, 1, 0]) (gl g0 [3, 0, 0, 3, 3, 0, 3, 3, 0, 0, 3, 2, 2, 2, 1, 1, 1, 1, 2, 2, 0, 1, 8, 1, 0])) [3, 3, 3, 0, 3, 3, 0, 0, 3, 3, 0, 0, 0, 10, 0, 3, 3, 3, 3, 3, 3, 1, 1, 1, 0, 1, 0, 1, 0, 5, 0, 0, 9, 0]) (gl g0 [3, 0, 0, 3, 3, 0, 3, 3, 0, 0, 3, 2, 2, 2, 1, 1, 1, 1, 2, 2, 0, 1, 8, 1, 0])) [3, 0, 0, 3, 3, 0, 3, 3, 0, 0, 3, 3, 0, 0, 0, 10, 0, 3, 3, 3, 3, 3, 3, 1, 1, 1, 0, 1, 0, 1, 0, 5, 0, 0, 9, 0])) [1, 0, 0, 0, 2, 2, 2, 2, 2, 2, 2, 2, 2, 2, 2, 0, 2, 2, 2, 0, 5, 0, 2, 2, 2, 0, 1, 0, 0, 0, 3, 3, 3, 3, 3, 3, 3, 3, 3, 3, 3, 0, 0, 3, 0, 0, 3, 0, 4, 1, 0, 3, 3, 3, 0, 3, 3, 0, 0, 3, 3, 0, 0, 0, 10, 0, 3, 3, 3, 3, 3, 3, 1, 1, 1, 0, 1, 0, 1, 0, 5, 0, 0, 9, 0])
noncomputable def tgBI5 : Tg := (gl (gf (gl (gf (gl (gf (gl g0 [2, 2, 2, 0, 2, 2, 0, 0, 2]) (gl g0 [2, 0, 0, 2, 2, 0, 2, 2, 0, 0, 2])) [2, 2, 2, 0, 2, 2, 0, 0, 2, 2, 0, 0, 0, 10, 0, 2, 2, 2, 2, 2, 2, 1, 1, 1, 0, 1, 0, 1, 0, 5, 0, 0, 9, 0]) (gl g0 [2, 0, 0, 2, 2, 0, 2, 2, 0, 0, 2])) [2, 2, 2, 0, 2, 2, 0, 0, 2, 2, 0, 0, 0, 10, 0, 2, 2, 2, 2, 2, 2, 1, 1, 1, 0, 1, 0, 1, 0, 5, 0, 0, 9, 0]) (gl (gf (gl (gf (gl g0 [2, 2, 2, 0, 2, 2, 0, 0, 2]) (gl g0 [2, 0, 0, 2, 2, 0, 2, 2, 0, 0, 2])) [2, 2, 2, 0, 2, 2, 0, 0, 2, 2, 0, 0, 0, 10, 0, 2, 2, 2, 2, 2, 2, 1, 1, 1, 0, 1, 0, 1, 0, 5, 0, 0, 9, 0]) (gl g0 [2, 0, 0, 2, 2, 0, 2, 2, 0, 0, 2])) [2, 0, 0, 2, 2, 0, 2, 2, 0, 0, 2, 2, 0, 0, 0, 10, 0, 2, 2, 2, 2, 2, 2, 1, 1, 1, 0, 1, 0, 1, 0, 5, 0, 0, 9, 0])) [1, 0, 0, 0, 2, 2, 2, 2, 2, 2, 2, 2, 2, 2, 2, 0, 0, 2, 0, 0, 2, 0, 4, 1, 0, 2, 2, 2, 0, 2, 2, 0, 0, 2, 2, 0, 0, 0, 10, 0, 2, 2, 2, 2, 2, 2, 1, 1, 1, 0, 1, 0, 1, 0, 5, 0, 0, 9, 0])
set_option maxHeartbeats 0 in
theorem is_chk5 (P : Params) (b1 b2 : Bool) (a : Addr) (x : WV) (p0 p1 p2 p3 p4 : WV) (e N tk : Nat) : (chkOf P b1 b2 rulesD (cIS a x) 342 3950 [(a, oList (([p0, p1, p2, p3, p4] : List WV).map wv) e)] N tk tgIS5 (isRaw x [p0, p1, p2, p3, p4] e)).lhs = (chkOf P b1 b2 rulesD (cIS a x) 342 3950 [(a, oList (([p0, p1, p2, p3, p4] : List WV).map wv) e)] N tk tgIS5 (isRaw x [p0, p1, p2, p3, p4] e)).rhs := by
  cases b1 <;> kernel_rfl
set_option maxHeartbeats 0 in
theorem bi_chk5 (P : Params) (b1 b2 : Bool) (a : Addr) (n : Nat) (t : Tok) (p0 p1 p2 p3 p4 : WV) (e N tk : Nat) : (chkOf P b1 b2 rulesD (cBI a n t) 342 3950 [(a, oList (([p0, p1, p2, p3, p4] : List WV).map wv) e)] N tk tgBI5 (biRaw n [p0, p1, p2, p3, p4] e)).lhs = (chkOf P b1 b2 rulesD (cBI a n t) 342 3950 [(a, oList (([p0, p1, p2, p3, p4] : List WV).map wv) e)] N tk tgBI5 (biRaw n [p0, p1, p2, p3, p4] e)).rhs := by
  cases b1 <;> kernel_rfl
theorem is_raw (w : World) (a : Addr) (x : WV) (e : Nat) : ∀ l : List WV, l.length ≤ 5 → CodeSpec pw0 w (ko w.params) 342 3950 (cIS a x) [(a, oList (l.map wv) e)] (isRaw x l e)
  | [], _ => spec_of w (rulesD_ok _ _ _) fun b1 b2 N tk => is_chk0 w.params b1 b2 a x  e N tk
  | [p0], _ => spec_of w (rulesD_ok _ _ _) fun b1 b2 N tk => is_chk1 w.params b1 b2 a x p0 e N tk
  | [p0, p1], _ => spec_of w (rulesD_ok _ _ _) fun b1 b2 N tk => is_chk2 w.params b1 b2 a x p0 p1 e N tk
  | [p0, p1, p2], _ => spec_of w (rulesD_ok _ _ _) fun b1 b2 N tk => is_chk3 w.params b1 b2 a x p0 p1 p2 e N tk
  | [p0, p1, p2, p3], _ => spec_of w (rulesD_ok _ _ _) fun b1 b2 N tk => is_chk4 w.params b1 b2 a x p0 p1 p2 p3 e N tk
  | [p0, p1, p2, p3, p4], _ => spec_of w (rulesD_ok _ _ _) fun b1 b2 N tk => is_chk5 w.params b1 b2 a x p0 p1 p2 p3 p4 e N tk
  | _ :: _ :: _ :: _ :: _ :: _ :: _, h => by simp only [List.length_cons] at h; omega
theorem bi_raw (w : World) (a : Addr) (n : Nat) (t : Tok) (e : Nat) : ∀ l : List WV, l.length ≤ 5 → CodeSpec pw0 w (ko w.params) 342 3950 (cBI a n t) [(a, oList (l.map wv) e)] (biRaw n l e)
  | [], _ => spec_of w (rulesD_ok _ _ _) fun b1 b2 N tk => bi_chk0 w.params b1 b2 a n t  e N tk
  | [p0], _ => spec_of w (rulesD_ok _ _ _) fun b1 b2 N tk => bi_chk1 w.params b1 b2 a n t p0 e N tk
  | [p0, p1], _ => spec_of w (rulesD_ok _ _ _) fun b1 b2 N tk => bi_chk2 w.params b1 b2 a n t p0 p1 e N tk
  | [p0, p1, p2], _ => spec_of w (rulesD_ok _ _ _) fun b1 b2 N tk => bi_chk3 w.params b1 b2 a n t p0 p1 p2 e N tk
  | [p0, p1, p2, p3], _ => spec_of w (rulesD_ok _ _ _) fun b1 b2 N tk => bi_chk4 w.params b1 b2 a n t p0 p1 p2 p3 e N tk
  | [p0, p1, p2, p3, p4], _ => spec_of w (rulesD_ok _ _ _) fun b1 b2 N tk => bi_chk5 w.params b1 b2 a n t p0 p1 p2 p3 p4 e N tk
  | _ :: _ :: _ :: _ :: _ :: _ :: _, h => by simp only [List.length_cons] at h; omega
/-- insort_right, by what it leaves -/
noncomputable def isSpec (x : WV) (l : List WV) (e : Nat) : Spec :=
  .need (x.1.length ≤ 1000 ∧ ∀ p ∈ l, p.1.length ≤ 1000) (.leaf (fun _ => []) (fun _ => ⟨.res (.ok (.ret .none)), [oList ((insA x l (bisW l x.1.length)).map wv) (e + 1)], []⟩))
noncomputable def biSpec (n : Nat) (l : List WV) (e : Nat) : Spec :=
  .need (∀ p ∈ l, p.1.length ≤ 1000) (.leaf witI (fun ws => ⟨.res (.ok (.ret (.int (Int.ofNat (bisW l n)) (ws.getD 0 0)))), [oList (l.map wv) e], []⟩))
theorem bisT_le (f : Nat → Bool) : ∀ (n lo hi : Nat), lo ≤ hi → bisT f n lo hi ≤ hi
  | 0, lo, hi, h => h
  | n + 1, lo, hi, h => by
    unfold bisT
    cases q : Nat.blt lo hi with
    | false => exact h
    | true =>
      have hl : lo < hi := Nat.le_of_ble_eq_true q
      dsimp only
      cases f ((lo + hi) / 2) with
      | true => exact Nat.le_trans (bisT_le f n _ _ (by omega)) (by omega)
      | false => exact bisT_le f n _ _ (by omega)
theorem qp_of {l : List WV} (h : ∀ p ∈ l, p.1.length ≤ 1000) (i : Nat) : qp l i := by
  unfold qp nthW
  rw [List.getD_eq_getElem?_getD]
  cases q : l[i]? with
  | none => simp only [Option.getD_none]; exact Nat.le_trans (Nat.le_of_eq (by rfl)) (Nat.zero_le _)
  | some p => simp only [Option.getD_some]; exact h p (List.mem_of_getElem? q)
theorem is_spec (w : World) (a : Addr) (x : WV) (e : Nat) {l : List WV} (hl : l.length ≤ 5) : CodeSpec pw0 w (ko w.params) 342 3950 (cIS a x) [(a, oList (l.map wv) e)] (isSpec x l e) := by
  refine (is_raw w a x e l hl).mono fun V h => ?_
  obtain ⟨⟨h1, h2⟩, h3⟩ := h
  refine ⟨h1, by rw [List.length_map]; omega, askT_of (qp_of h2) 8 0 l.length (by omega) ⟨?_, by omega, h3⟩⟩
  have := bisT_le (qf x.1.length l) 8 0 l.length (Nat.zero_le _)
  omega
theorem bi_spec (w : World) (a : Addr) (n : Nat) (t : Tok) (e : Nat) {l : List WV} (hl : l.length ≤ 5) : CodeSpec pw0 w (ko w.params) 342 3950 (cBI a n t) [(a, oList (l.map wv) e)] (biSpec n l e) := by
  refine (bi_raw w a n t e l hl).mono fun V h => ?_
  obtain ⟨h2, h3⟩ := h
  exact ⟨by rw [List.length_map]; omega, askT_of (qp_of h2) 8 0 l.length (by omega) h3⟩
/-- the items of a short list of words -/
noncomputable def shortB : List WV → Bool
  | [] => true
  | [_] => true
  | [_, _] => true
  | [_, _, _] => true
  | [_, _, _, _] => true
  | [_, _, _, _, _] => true
  | _ => false
theorem short_is : ∀ {l : List WV}, shortB l = true → l.length ≤ 5
  | [], _ => by simp
  | [_], _ => by simp
  | [_, _], _ => by simp
  | [_, _, _], _ => by simp
  | [_, _, _, _], _ => by simp
  | [_, _, _, _, _], _ => by simp
  | _ :: _ :: _ :: _ :: _ :: _ :: _, h => by cases h
noncomputable def rIS : RuleD where
  D := 342
  U := 3950
  code c es := cIS (ad0 es) (wvOf (argV c 1))
  objs _ es := [(ad0 es, oList (itemsOf (ob0 es)) (epOf (ob0 es)))]
  spec c es := match wordsOf? (itemsOf (ob0 es)) with
    | some l => match shortB l with
      | true => isSpec (wvOf (argV c 1)) l (epOf (ob0 es))
      | false => .stop 401
    | none => .stop 402
theorem rIS_ok (w : World) : RuleD.Ok pw0 w (ko w.params) rIS := by
  intro c es he
  unfold rIS at he ⊢
  dsimp only at he ⊢
  split
  · rename_i l hl
    split
    · rename_i hs
      rw [wordsOf_is hl] at he
      have z := is_spec w (ad0 es) (wvOf (argV c 1)) (epOf (ob0 es)) (short_is hs)
      exact cast (congrArg (fun es' => CodeSpec pw0 w (ko w.params) 342 3950 (cIS (ad0 es) (wvOf (argV c 1))) es' (isSpec (wvOf (argV c 1)) l (epOf (ob0 es)))) he.symm) z
    · intro A R s _ _ _ _ hw; cases hw
  · intro A R s _ _ _ _ hw; cases hw
noncomputable def rBI : RuleD where
  D := 342
  U := 3950
  code c es := cBI (ad0 es) (argI c 1).toNat (argT c 1)
  objs _ es := [(ad0 es, oList (itemsOf (ob0 es)) (epOf (ob0 es)))]
  spec c es := match wordsOf? (itemsOf (ob0 es)) with
    | some l => match shortB l with
      | true => biSpec (argI c 1).toNat l (epOf (ob0 es))
      | false => .stop 403
    | none => .stop 404
theorem rBI_ok (w : World) : RuleD.Ok pw0 w (ko w.params) rBI := by
  intro c es he
  unfold rBI at he ⊢
  dsimp only at he ⊢
  split
  · rename_i l hl
    split
    · rename_i hs
      rw [wordsOf_is hl] at he
      have z := bi_spec w (ad0 es) (argI c 1).toNat (argT c 1) (epOf (ob0 es)) (short_is hs)
      exact cast (congrArg (fun es' => CodeSpec pw0 w (ko w.params) 342 3950 (cBI (ad0 es) (argI c 1).toNat (argT c 1)) es' (biSpec (argI c 1).toNat l (epOf (ob0 es)))) he.symm) z
    · intro A R s _ _ _ _ hw; cases hw
  · intro A R s _ _ _ _ hw; cases hw
end Mine

namespace Mine
open PySem PySem.Spec PySem.Calls PyProof.Rows PySem.W PySem.W.X

noncomputable def kwName (b : Bool) : List (Str × Value) := [((sl [110, 97, 109, 101]), .bool b)]
noncomputable abbrev cCV (a : Addr) (x : WV) : Code := .call (.ref 143) ⟨[.ref a, wv x], kwName false⟩
noncomputable def cvSpec (x : WV) : Spec := .leaf (fun _ => []) (fun _ => ⟨.res (.ok (.ret (wv x))), [], []⟩)
noncomputable def tgCV : Tg := (gl g0 [1, 0, 0, 1, 1, 1, 1, 1, 1, 0, 0, 1, 0, 0, 0, 0, 1, 0, 1, 1, 1, 0, 0, 0, 0, 1, 0, 0, 0, 0, 0, 1])
noncomputable abbrev ckCV (P : Params) (b1 b2 : Bool) (c n : Nat) (a : Addr) (t : Tok) (N tk : Nat) : Chk := chkOf P b1 b2 [] (cCV a (wd c n, t)) 345 3990 [] N tk tgCV (cvSpec (wd c n, t))
noncomputable def OkW (s : Str) : Prop := ∃ c n, okCh c = true ∧ 1 ≤ n ∧ n ≤ 6 ∧ s = wd c n
theorem no_rules (w : World) (kt : Addr → Obj → Prop) : ∀ r ∈ ([] : List RuleD), RuleD.Ok pw0 w kt r := fun _ h => nomatch h
set_option maxHeartbeats 0
theorem cv_chk32x1 (P : Params) (b1 b2 : Bool) (a : Addr) (t : Tok) (N tk : Nat) : (ckCV P b1 b2 32 1 a t N tk).lhs = (ckCV P b1 b2 32 1 a t N tk).rhs := by
  cases b1 <;> kernel_rfl
theorem cv_chk32x2 (P : Params) (b1 b2 : Bool) (a : Addr) (t : Tok) (N tk : Nat) : (ckCV P b1 b2 32 2 a t N tk).lhs = (ckCV P b1 b2 32 2 a t N tk).rhs := by
  cases b1 <;> kernel_rfl
theorem cv_chk32x3 (P : Params) (b1 b2 : Bool) (a : Addr) (t : Tok) (N tk : Nat) : (ckCV P b1 b2 32 3 a t N tk).lhs = (ckCV P b1 b2 32 3 a t N tk).rhs := by
  cases b1 <;> kernel_rfl
theorem cv_chk32x4 (P : Params) (b1 b2 : Bool) (a : Addr) (t : Tok) (N tk : Nat) : (ckCV P b1 b2 32 4 a t N tk).lhs = (ckCV P b1 b2 32 4 a t N tk).rhs := by
  cases b1 <;> kernel_rfl
theorem cv_chk32x5 (P : Params) (b1 b2 : Bool) (a : Addr) (t : Tok) (N tk : Nat) : (ckCV P b1 b2 32 5 a t N tk).lhs = (ckCV P b1 b2 32 5 a t N tk).rhs := by
  cases b1 <;> kernel_rfl
theorem cv_chk32x6 (P : Params) (b1 b2 : Bool) (a : Addr) (t : Tok) (N tk : Nat) : (ckCV P b1 b2 32 6 a t N tk).lhs = (ckCV P b1 b2 32 6 a t N tk).rhs := by
  cases b1 <;> kernel_rfl
theorem cv_chk34x1 (P : Params) (b1 b2 : Bool) (a : Addr) (t : Tok) (N tk : Nat) : (ckCV P b1 b2 34 1 a t N tk).lhs = (ckCV P b1 b2 34 1 a t N tk).rhs := by
  cases b1 <;> kernel_rfl
theorem cv_chk34x2 (P : Params) (b1 b2 : Bool) (a : Addr) (t : Tok) (N tk : Nat) : (ckCV P b1 b2 34 2 a t N tk).lhs = (ckCV P b1 b2 34 2 a t N tk).rhs := by
  cases b1 <;> kernel_rfl
theorem cv_chk34x3 (P : Params) (b1 b2 : Bool) (a : Addr) (t : Tok) (N tk : Nat) : (ckCV P b1 b2 34 3 a t N tk).lhs = (ckCV P b1 b2 34 3 a t N tk).rhs := by
  cases b1 <;> kernel_rfl
theorem cv_chk34x4 (P : Params) (b1 b2 : Bool) (a : Addr) (t : Tok) (N tk : Nat) : (ckCV P b1 b2 34 4 a t N tk).lhs = (ckCV P b1 b2 34 4 a t N tk).rhs := by
  cases b1 <;> kernel_rfl
theorem cv_chk34x5 (P : Params) (b1 b2 : Bool) (a : Addr) (t : Tok) (N tk : Nat) : (ckCV P b1 b2 34 5 a t N tk).lhs = (ckCV P b1 b2 34 5 a t N tk).rhs := by
  cases b1 <;> kernel_rfl
theorem cv_chk34x6 (P : Params) (b1 b2 : Bool) (a : Addr) (t : Tok) (N tk : Nat) : (ckCV P b1 b2 34 6 a t N tk).lhs = (ckCV P b1 b2 34 6 a t N tk).rhs := by
  cases b1 <;> kernel_rfl
theorem cv_chk92x1 (P : Params) (b1 b2 : Bool) (a : Addr) (t : Tok) (N tk : Nat) : (ckCV P b1 b2 92 1 a t N tk).lhs = (ckCV P b1 b2 92 1 a t N tk).rhs := by
  cases b1 <;> kernel_rfl
theorem cv_chk92x2 (P : Params) (b1 b2 : Bool) (a : Addr) (t : Tok) (N tk : Nat) : (ckCV P b1 b2 92 2 a t N tk).lhs = (ckCV P b1 b2 92 2 a t N tk).rhs := by
  cases b1 <;> kernel_rfl
theorem cv_chk92x3 (P : Params) (b1 b2 : Bool) (a : Addr) (t : Tok) (N tk : Nat) : (ckCV P b1 b2 92 3 a t N tk).lhs = (ckCV P b1 b2 92 3 a t N tk).rhs := by
  cases b1 <;> kernel_rfl
theorem cv_chk92x4 (P : Params) (b1 b2 : Bool) (a : Addr) (t : Tok) (N tk : Nat) : (ckCV P b1 b2 92 4 a t N tk).lhs = (ckCV P b1 b2 92 4 a t N tk).rhs := by
  cases b1 <;> kernel_rfl
theorem cv_chk92x5 (P : Params) (b1 b2 : Bool) (a : Addr) (t : Tok) (N tk : Nat) : (ckCV P b1 b2 92 5 a t N tk).lhs = (ckCV P b1 b2 92 5 a t N tk).rhs := by
  cases b1 <;> kernel_rfl
theorem cv_chk92x6 (P : Params) (b1 b2 : Bool) (a : Addr) (t : Tok) (N tk : Nat) : (ckCV P b1 b2 92 6 a t N tk).lhs = (ckCV P b1 b2 92 6 a t N tk).rhs := by
  cases b1 <;> kernel_rfl
theorem cv_spec (w : World) (a : Addr) (t : Tok) {s : Str} (h : OkW s) : CodeSpec pw0 w (ko w.params) 345 3990 (cCV a (s, t)) [] (cvSpec (s, t)) := by
  obtain ⟨c, n, hc, h1, h6, rfl⟩ := h
  have hn : n = 1 ∨ n = 2 ∨ n = 3 ∨ n = 4 ∨ n = 5 ∨ n = 6 := by omega
  rcases okCh_is hc with rfl | rfl | rfl <;> rcases hn with rfl | rfl | rfl | rfl | rfl | rfl
  · exact spec_of w (no_rules w _) fun b1 b2 N tk => cv_chk32x1 w.params b1 b2 a t N tk
  · exact spec_of w (no_rules w _) fun b1 b2 N tk => cv_chk32x2 w.params b1 b2 a t N tk
  · exact spec_of w (no_rules w _) fun b1 b2 N tk => cv_chk32x3 w.params b1 b2 a t N tk
  · exact spec_of w (no_rules w _) fun b1 b2 N tk => cv_chk32x4 w.params b1 b2 a t N tk
  · exact spec_of w (no_rules w _) fun b1 b2 N tk => cv_chk32x5 w.params b1 b2 a t N tk
  · exact spec_of w (no_rules w _) fun b1 b2 N tk => cv_chk32x6 w.params b1 b2 a t N tk
  · exact spec_of w (no_rules w _) fun b1 b2 N tk => cv_chk34x1 w.params b1 b2 a t N tk
  · exact spec_of w (no_rules w _) fun b1 b2 N tk => cv_chk34x2 w.params b1 b2 a t N tk
  · exact spec_of w (no_rules w _) fun b1 b2 N tk => cv_chk34x3 w.params b1 b2 a t N tk
  · exact spec_of w (no_rules w _) fun b1 b2 N tk => cv_chk34x4 w.params b1 b2 a t N tk
  · exact spec_of w (no_rules w _) fun b1 b2 N tk => cv_chk34x5 w.params b1 b2 a t N tk
  · exact spec_of w (no_rules w _) fun b1 b2 N tk => cv_chk34x6 w.params b1 b2 a t N tk
  · exact spec_of w (no_rules w _) fun b1 b2 N tk => cv_chk92x1 w.params b1 b2 a t N tk
  · exact spec_of w (no_rules w _) fun b1 b2 N tk => cv_chk92x2 w.params b1 b2 a t N tk
  · exact spec_of w (no_rules w _) fun b1 b2 N tk => cv_chk92x3 w.params b1 b2 a t N tk
  · exact spec_of w (no_rules w _) fun b1 b2 N tk => cv_chk92x4 w.params b1 b2 a t N tk
  · exact spec_of w (no_rules w _) fun b1 b2 N tk => cv_chk92x5 w.params b1 b2 a t N tk
  · exact spec_of w (no_rules w _) fun b1 b2 N tk => cv_chk92x6 w.params b1 b2 a t N tk
noncomputable def refOf (v : Value) : Addr := match v with
  | .ref a => a
  | _ => 0
noncomputable def rCV : RuleD where
  D := 345
  U := 3990
  code c _ := cCV (refOf (argV c 0)) (wvOf (argV c 1))
  objs _ _ := []
  spec c _ := .need (OkW (wvOf (argV c 1)).1) (cvSpec (wvOf (argV c 1)))
theorem rCV_ok (w : World) : RuleD.Ok pw0 w (ko w.params) rCV := by
  intro c es he A R s hA hD hU H hw
  have he : es = [] := he
  subst he
  exact cv_spec w (refOf (argV c 0)) (wvOf (argV c 1)).2 hw.1 A R s hA hD hU H hw.2
/-- the table of headers -/
structure HX where
  th : Addr
  thd : Addr
  thl : Addr
  h : Int
  t : Tok
noncomputable def oTab (y : HX) : Obj := { cls := .ref 244, dict := some y.thd }
noncomputable def oTabD (y : HX) : Obj := dictO [⟨y.h, .str (sl [95, 104, 101, 97, 100, 101, 114, 115]) y.t, .ref y.thl⟩] 1
noncomputable def oTup (l : List Value) : Obj := { cls := .type "tuple", data := .seq (Array.mk l) }
noncomputable def tabPre (y : HX) (hl : List Value) (e : Nat) : List (Addr × Obj) := [(y.th, oTab y), (y.thd, oTabD y), (y.thl, oList hl e)]
noncomputable def tabOs (y : HX) (hl : List Value) (e : Nat) : List Obj := [oTab y, oTabD y, oList hl e]
/-- Least-k -/
noncomputable def nmL (k : Nat) : Str := Str.mk (Array.mk [76, 101, 97, 115, 116, 45, 48 + k])
noncomputable def nml (k : Nat) : Str := Str.mk (Array.mk [108, 101, 97, 115, 116, 45, 48 + k])
noncomputable def witNews (L : Leaf) : List Nat := L.ns.map (·.1)
noncomputable abbrev cAH (y : HX) (k : Nat) (tn : Tok) (x : WV) : Code := .call (.ref 241) ⟨[.ref y.th, .str (nmL k) tn, wv x], []⟩
noncomputable def ahSpec (y : HX) (hl : List Value) (e : Nat) (k : Nat) (tn : Tok) (x : WV) : Spec :=
  .need (OkW x.1) (.need (hl.length ≤ 1000) (.leaf witNews (fun ws => ⟨.res (.ok (.ret .none)), tabOs y (hl ++ [.ref (ws.getD 0 0)]) (e + 1), [(ws.getD 0 0, oTup [.str (nmL k) tn, wv x])]⟩)))
noncomputable def rulesE : List RuleD := rulesD ++ [rCV]
theorem rulesE_ok (w : World) : ∀ r ∈ rulesE, RuleD.Ok pw0 w (ko w.params) r := by
  intro r hr
  rcases List.mem_append.mp hr with h | h
  · exact rulesD_ok _ _ _ r h
  · rw [List.mem_singleton] at h; subst h; exact rCV_ok w
noncomputable def tgAH : Tg := (gl g0 [1, 0, 0, 5, 5, 5, 5, 5, 5, 5, 5, 5, 5, 5, 5, 1, 0, 0, 0, 1, 0, 0, 0, 1, 0, 0, 0, 0, 1, 2, 5, 0, 11, 0, 5, 5, 5, 6, 6, 6, 6, 5, 0, 6, 0, 6, 6, 6, 5, 4, 4, 4, 4, 0, 4, 0, 4, 7, 7, 0, 7, 0, 7, 4, 4, 8, 0, 8, 0, 8, 0, 8, 8, 4, 4, 8, 8, 8, 10, 0, 5, 1, 0, 0, 0, 0, 1, 0, 0, 0, 1, 1, 0, 2, 3, 3, 3, 3, 5, 1, 0, 0, 0, 1, 0, 0, 0, 1, 0, 0, 0, 0, 1, 2, 5, 0, 1, 0, 0, 11, 11, 11, 11, 11, 11, 0, 0, 11, 0, 0, 0, 0, 11, 0, 11, 11, 11, 0, 0, 0, 0, 11, 0, 0, 0, 0, 0, 11, 5, 0, 0, 6, 6, 0, 3, 6, 1, 2, 11])
noncomputable abbrev ckAH (P : Params) (b1 b2 : Bool) (y : HX) (hl : List Value) (e : Nat) (k : Nat) (tn : Tok) (x : WV) (N tk : Nat) : Chk :=
  chkOf P b1 b2 rulesE (cAH y k tn x) 342 3950 (tabPre y hl e) N tk tgAH (ahSpec y hl e k tn x)
noncomputable def tgPT : Tg := (gl g0 [1, 0, 0, 4, 4, 4, 4, 4, 1, 0, 0, 0, 0, 1, 0, 0, 0, 1, 1, 0, 2, 3, 3, 3, 3, 4, 0, 3, 6, 1, 2])
noncomputable abbrev cPT (x : LX) (v : WV) : Code := .call (.ref 91) ⟨[.ref x.al, wv v], []⟩
noncomputable def ptSpec (x : LX) (v : WV) (q : List Value) (m : Nat) : Spec :=
  .need (q.length ≤ 1000) (.leaf (fun _ => []) (fun _ => ⟨.res (.ok (.ret .none)), [oInst x.ald, oLexD x 1, oList (q ++ [wv v]) (m + 1)], []⟩))
noncomputable abbrev ckPT (P : Params) (b1 b2 : Bool) (x : LX) (v : WV) (q : List Value) (m : Nat) (N tk : Nat) : Chk :=
  chkOf P b1 b2 rulesD (cPT x v) 342 3950 [(x.al, oInst x.ald), (x.ald, oLexD x 1), (x.apb, oList q m)] N tk tgPT (ptSpec x v q m)
theorem ah_chk0 (P : Params) (b1 b2 : Bool) (y : HX) (hl : List Value) (e : Nat) (tn : Tok) (x : WV) (N tk : Nat) : (ckAH P b1 b2 y hl e 0 tn x N tk).lhs = (ckAH P b1 b2 y hl e 0 tn x N tk).rhs := by
  cases b1 <;> kernel_rfl
theorem ah_chk1 (P : Params) (b1 b2 : Bool) (y : HX) (hl : List Value) (e : Nat) (tn : Tok) (x : WV) (N tk : Nat) : (ckAH P b1 b2 y hl e 1 tn x N tk).lhs = (ckAH P b1 b2 y hl e 1 tn x N tk).rhs := by
  cases b1 <;> kernel_rfl
theorem ah_chk2 (P : Params) (b1 b2 : Bool) (y : HX) (hl : List Value) (e : Nat) (tn : Tok) (x : WV) (N tk : Nat) : (ckAH P b1 b2 y hl e 2 tn x N tk).lhs = (ckAH P b1 b2 y hl e 2 tn x N tk).rhs := by
  cases b1 <;> kernel_rfl
theorem ah_chk3 (P : Params) (b1 b2 : Bool) (y : HX) (hl : List Value) (e : Nat) (tn : Tok) (x : WV) (N tk : Nat) : (ckAH P b1 b2 y hl e 3 tn x N tk).lhs = (ckAH P b1 b2 y hl e 3 tn x N tk).rhs := by
  cases b1 <;> kernel_rfl
theorem ah_chk4 (P : Params) (b1 b2 : Bool) (y : HX) (hl : List Value) (e : Nat) (tn : Tok) (x : WV) (N tk : Nat) : (ckAH P b1 b2 y hl e 4 tn x N tk).lhs = (ckAH P b1 b2 y hl e 4 tn x N tk).rhs := by
  cases b1 <;> kernel_rfl
theorem ah_chk5 (P : Params) (b1 b2 : Bool) (y : HX) (hl : List Value) (e : Nat) (tn : Tok) (x : WV) (N tk : Nat) : (ckAH P b1 b2 y hl e 5 tn x N tk).lhs = (ckAH P b1 b2 y hl e 5 tn x N tk).rhs := by
  cases b1 <;> kernel_rfl
theorem pt_chk (P : Params) (b1 b2 : Bool) (x : LX) (v : WV) (q : List Value) (m : Nat) (N tk : Nat) : (ckPT P b1 b2 x v q m N tk).lhs = (ckPT P b1 b2 x v q m N tk).rhs := by
  cases b1 <;> kernel_rfl
theorem ah_spec (w : World) (y : HX) (hl : List Value) (e : Nat) {k : Nat} (hk : k ≤ 5) (tn : Tok) (x : WV) : CodeSpec pw0 w (ko w.params) 342 3950 (cAH y k tn x) (tabPre y hl e) (ahSpec y hl e k tn x) := by
  have hn : k = 0 ∨ k = 1 ∨ k = 2 ∨ k = 3 ∨ k = 4 ∨ k = 5 := by omega
  rcases hn with rfl | rfl | rfl | rfl | rfl | rfl
  · exact spec_of w (rulesE_ok w) fun b1 b2 N tk => ah_chk0 w.params b1 b2 y hl e tn x N tk
  · exact spec_of w (rulesE_ok w) fun b1 b2 N tk => ah_chk1 w.params b1 b2 y hl e tn x N tk
  · exact spec_of w (rulesE_ok w) fun b1 b2 N tk => ah_chk2 w.params b1 b2 y hl e tn x N tk
  · exact spec_of w (rulesE_ok w) fun b1 b2 N tk => ah_chk3 w.params b1 b2 y hl e tn x N tk
  · exact spec_of w (rulesE_ok w) fun b1 b2 N tk => ah_chk4 w.params b1 b2 y hl e tn x N tk
  · exact spec_of w (rulesE_ok w) fun b1 b2 N tk => ah_chk5 w.params b1 b2 y hl e tn x N tk
theorem pt_spec (w : World) (x : LX) (v : WV) (q : List Value) (m : Nat) : CodeSpec pw0 w (ko w.params) 342 3950 (cPT x v) [(x.al, oInst x.ald), (x.ald, oLexD x 1), (x.apb, oList q m)] (ptSpec x v q m) :=
  spec_of w (rulesD_ok _ _ _) fun b1 b2 N tk => pt_chk w.params b1 b2 x v q m N tk
noncomputable def hxOf (es : List (Addr × Obj)) : HX := ⟨adK es 0, adK es 1, adK es 2, (entAt (obK es 1) 0).hash, sTok (entAt (obK es 1) 0).key⟩
/-- add_header at the place k, onto the rows hl -/
noncomputable def rAH (k : Nat) (hl : List Value) : RuleD where
  D := 342
  U := 3950
  code c es := cAH (hxOf es) k (sTok (argV c 1)) (wvOf (argV c 2))
  objs _ es := tabPre (hxOf es) hl (epOf (obK es 2))
  spec c es := ahSpec (hxOf es) hl (epOf (obK es 2)) k (sTok (argV c 1)) (wvOf (argV c 2))
theorem rAH_ok (w : World) {k : Nat} (hk : k ≤ 5) (hl : List Value) : RuleD.Ok pw0 w (ko w.params) (rAH k hl) := by
  intro c es he
  have z := ah_spec w (hxOf es) hl (epOf (obK es 2)) hk (sTok (argV c 1)) (wvOf (argV c 2))
  exact cast (congrArg (fun l => CodeSpec pw0 w (ko w.params) 342 3950 (cAH (hxOf es) k (sTok (argV c 1)) (wvOf (argV c 2))) l (ahSpec (hxOf es) hl (epOf (obK es 2)) k (sTok (argV c 1)) (wvOf (argV c 2)))) he.symm) z
/-- push_token onto the row q -/
noncomputable def rPT (x : LX) (q : List Value) : RuleD where
  D := 342
  U := 3950
  code c _ := cPT x (wvOf (argV c 1))
  objs _ es := [(x.al, oInst x.ald), (x.ald, oLexD x 1), (x.apb, oList q (epOf (obK es 2)))]
  spec c es := ptSpec x (wvOf (argV c 1)) q (epOf (obK es 2))
theorem rPT_ok (w : World) (x : LX) (q : List Value) : RuleD.Ok pw0 w (ko w.params) (rPT x q) := by
  intro c es he
  have z := pt_spec w x (wvOf (argV c 1)) q (epOf (obK es 2))
  exact cast (congrArg (fun l => CodeSpec pw0 w (ko w.params) 342 3950 (cPT x (wvOf (argV c 1))) l (ptSpec x (wvOf (argV c 1)) q (epOf (obK es 2)))) he.symm) z
theorem wd_lead (c n : Nat) : sl [] ++ wd c n = wd c n := by
  apply Str.ext'
  rw [Str.cps_append]
  show (Array.mk []) ++ (wd c n).cps = (wd c n).cps
  simp
/-- get_token, by what it gives -/
noncomputable def gtSpec (P : Params) (x : LX) (ld : Option Tok) (c : Nat) (ts : List (Tok × Tok)) (rest : List Value) (n m : Nat) : Spec :=
  .leaf witRet (fun ws => ⟨.res (.ok (.ret (.str (wd c ts.length) (ws.getD 0 0)))), lexOs P x rest (n + (leadV ld).length + 1 + (encV c ts).length + 1) ++ [oList [] m], []⟩)
theorem gt_spec (w : World) (x : LX) (ld : Option Tok) {c : Nat} (hc : okCh c = true) (t0 : Tok) (ts : List (Tok × Tok)) (t : Tok) (rest : List Value) (n m : Nat) (hb : 2 * ts.length + rest.length < 800) :
    CodeSpec pw0 w (ko w.params) 340 3900 (cGT x) (gtPre w.params x ld c t0 ts t rest n m) (gtSpec w.params x ld c ts rest n m) := by
  have he := enc_len c ts
  have e0 : (sl []).length = 0 := rfl
  have e1 : ([] : List Value).length ≤ 1000 := by simp
  have e2 : (encV c ts ++ .str (chS 34) t :: rest).length < 900 := by simp only [List.length_append, List.length_cons]; omega
  have e3 : (.str (chS 34) t0 :: (encV c ts ++ .str (chS 34) t :: rest) : List Value).length < 1000 := by simp only [List.length_cons]; omega
  cases ld with
  | none =>
    refine CodeSpec.mono (spec_of w (rulesC_ok w x hc ts t rest) fun b1 b2 N tk => g0_chk w.params b1 b2 x c t0 ts t rest n m N tk) fun V h => ⟨e1, by omega, by omega, fun ws hp tk E => ?_⟩
    have z := h ws hp tk
    rw [← wd_lead] at z
    exact z E
  | some t1 =>
    refine CodeSpec.mono (spec_of w (rulesC_ok w x hc ts t rest) fun b1 b2 N tk => g1_chk w.params b1 b2 x c t1 t0 ts t rest n m N tk) fun V h => ⟨e1, e3, by omega, by omega, fun ws hp tk E => ?_⟩
    have z := h ws hp tk
    rw [← wd_lead] at z
    exact z E
noncomputable def rGT (P : Params) (x : LX) (ld : Option Tok) (c : Nat) (t0 : Tok) (ts : List (Tok × Tok)) (t : Tok) (rest : List Value) : RuleD where
  D := 340
  U := 3900
  code _ _ := cGT x
  objs _ es := gtPre P x ld c t0 ts t rest (epOf (obK es 7)) (epOf (obK es 8))
  spec _ es := gtSpec P x ld c ts rest (epOf (obK es 7)) (epOf (obK es 8))
theorem rGT_ok (w : World) (x : LX) (ld : Option Tok) {c : Nat} (hc : okCh c = true) (t0 : Tok) (ts : List (Tok × Tok)) (t : Tok) (rest : List Value) (hb : 2 * ts.length + rest.length < 800) : RuleD.Ok pw0 w (ko w.params) (rGT w.params x ld c t0 ts t rest) := by
  intro c' es he
  have z := gt_spec w x ld hc t0 ts t rest (epOf (obK es 7)) (epOf (obK es 8)) hb
  exact cast (congrArg (fun l => CodeSpec pw0 w (ko w.params) 340 3900 (cGT x) l (gtSpec w.params x ld c ts rest (epOf (obK es 7)) (epOf (obK es 8)))) he.symm) z
/-- get_token of a pushed word -/
noncomputable def rGP (x : LX) (v : WV) (q : List Value) : RuleD where
  D := 340
  U := 3900
  code _ _ := cGT x
  objs _ es := [(x.al, oInst x.ald), (x.ald, oLexD x 1), (x.apb, oList (.str v.1 v.2 :: q) (epOf (obK es 2)))]
  spec _ es := gtpSpec x v.1 v.2 q (epOf (obK es 2))
theorem rulesA_gp (w : World) (x : LX) (v : WV) (q : List Value) (m : Nat) : CodeSpec pw0 w (ko w.params) 340 3900 (cGT x) [(x.al, oInst x.ald), (x.ald, oLexD x 1), (x.apb, oList (.str v.1 v.2 :: q) m)] (gtpSpec x v.1 v.2 q m) :=
  spec_of w (rulesA_ok w) fun b1 b2 N tk => gp_chk w.params b1 b2 x v.1 v.2 q m N tk
theorem rGP_ok (w : World) (x : LX) (v : WV) (q : List Value) : RuleD.Ok pw0 w (ko w.params) (rGP x v q) := by
  intro c' es he
  have z := rulesA_gp w x v q (epOf (obK es 2))
  exact cast (congrArg (fun l => CodeSpec pw0 w (ko w.params) 340 3900 (cGT x) l (gtpSpec x v.1 v.2 q (epOf (obK es 2)))) he.symm) z
end Mine

namespace Mine
open PySem PySem.Spec PySem.Calls PyProof.Rows PySem.W PySem.W.X

noncomputable def low (x : Str) : Str := ⟨placed x fun i _ => Unicode.lowerAt x.cps i⟩
noncomputable def lowOk (x : Str) : Prop := Builtin.Str.tooLong (placed x fun i _ => Unicode.lowerAt x.cps i).size = false
noncomputable def rLow : RuleD where
  D := 900
  U := 9000
  code c _ := .builtin (idOf c) ⟨[.str (argS c 0) (argST c 0)], []⟩
  objs _ _ := []
  spec c _ := ifId 2128759343679922206068 c (.need (lowOk (argS c 0)) (.leaf (fun _ => []) (fun ws => ⟨.res (.ok (.ret (.str (low (argS c 0)) (ws.getD 0 0)))), [], []⟩)))
theorem rLow_ok (prog : Program) (w : World) (kt : Addr → Obj → Prop) : RuleD.Ok prog w kt rLow := by
  intro c es he A R s hA hD hU H hw
  unfold rLow ifId at hw ⊢
  dsimp only at hw ⊢
  have he : es = [] := he
  subst he
  split at hw
  · rename_i hid
    have hid := eqLit_is "str.lower" (by decide +kernel) hid
    obtain ⟨hn, hw⟩ := hw
    rw [hid]
    generalize argS c 0 = x at *
    refine code_of_gives PySem.F.entry_str_lower (by decide +kernel) (gives_str_lower x (argST c 0) hn) ?_
    refine ⟨?_, hw [s.toks] s.heap (s.toks + 1) (ends_nil H)⟩
    exact fit_le hn
  · cases hw
noncomputable def eqS (x y : Str) : Bool := x.cps.toList == y.cps.toList
/-- the comparison of two texts -/
noncomputable def rSEq : RuleD where
  D := 900
  U := 9000
  code c _ := .builtin (idOf c) ⟨[.str (argS c 0) (argST c 0), .str (argS c 1) (argST c 1)], []⟩
  objs _ _ := []
  spec c _ := ifId 455126313168696234964340 c (.ask (eqS (argS c 0) (argS c 1)) (.leaf (fun _ => []) (fun _ => ⟨.res (.ok (.ret (.bool true))), [], []⟩)) (.leaf (fun _ => []) (fun _ => ⟨.res (.ok (.ret (.bool false))), [], []⟩)))
theorem rSEq_ok (prog : Program) (w : World) (kt : Addr → Obj → Prop) : RuleD.Ok prog w kt rSEq := by
  intro c es he A R s hA hD hU H hw
  unfold rSEq ifId at hw ⊢
  dsimp only at hw ⊢
  have he : es = [] := he
  subst he
  split at hw
  · rename_i hid
    have hid := eqLit_is "str.__eq__" (by decide +kernel) hid
    rw [hid]
    generalize argS c 0 = x at *
    generalize argS c 1 = y at *
    refine code_of_gives PySem.F.entry_str_eq (by decide +kernel) (gives_str_eq x y (argST c 0) (argST c 1)) ?_
    show R (.ok (.ret (.bool (eqS x y)))) s
    cases q : eqS x y with
    | true => exact hw.1 q [] s.heap s.toks (ends_nil H)
    | false => exact hw.2 q [] s.heap s.toks (ends_nil H)
  · cases hw
/-- one header: the place of its tuple, its name, its word -/
structure HR where
  a : Addr
  n : Str
  t : Tok
  v : WV
noncomputable def hTup (h : HR) : Obj := oTup [.str h.n h.t, wv h.v]
noncomputable def hRefs (hs : List HR) : List Value := hs.map fun h => .ref h.a
noncomputable def hEnts (hs : List HR) : List (Addr × Obj) := hs.map fun h => (h.a, hTup h)
noncomputable def hObjs (hs : List HR) : List Obj := hs.map hTup
noncomputable abbrev cGet (y : HX) (k : Nat) (tn : Tok) : Code := .call (.ref 191) ⟨[.ref y.th, .str (nml k) tn], []⟩
noncomputable def getT (k : Nat) (os : List Obj) : List HR → Spec
  | [] => .leaf (fun _ => []) (fun _ => ⟨.res (.ok (.ret .none)), os, []⟩)
  | h :: r => .need (lowOk h.n) (.ask (eqS (low h.n) (nml k)) (.leaf (fun _ => []) (fun _ => ⟨.res (.ok (.ret (wv h.v))), os, []⟩)) (getT k os r))
noncomputable def rulesG : List RuleD := [rLow, rSEq]
theorem rulesG_ok (prog : Program) (w : World) (kt : Addr → Obj → Prop) : ∀ r ∈ rulesG, RuleD.Ok prog w kt r := by
  intro r hr
  simp only [rulesG, List.mem_cons, List.not_mem_nil, or_false] at hr
  rcases hr with rfl | rfl
  · exact rLow_ok _ _ _
  · exact rSEq_ok _ _ _
noncomputable abbrev ckGet (P : Params) (b1 b2 : Bool) (y : HX) (hs : List HR) (e k : Nat) (tn : Tok) (N tk : Nat) (tg : Tg) : Chk :=
  chkOf P b1 b2 rulesG (cGet y k tn) 342 3950 (tabPre y (hRefs hs) e ++ hEnts hs) N tk tg (getT k (tabOs y (hRefs hs) e ++ hObjs hs) hs)
noncomputable def tgGe1 : Tg := (gl (gf (gl g0 [5]) (gl g0 [0, 7, 0, 7, 0, 7, 7, 3, 7, 7, 12, 0, 5])) [1, 0, 0, 0, 5, 5, 5, 5, 5, 5, 5, 1, 0, 0, 0, 1, 0, 0, 0, 1, 0, 0, 0, 0, 1, 2, 5, 0, 0, 0, 1, 0, 0, 6, 6, 6, 6, 6, 6, 0, 0, 6, 0, 0, 0, 0, 6, 0, 6, 6, 6, 0, 0, 0, 0, 6, 0, 0, 0, 0, 0, 6, 5, 5, 5, 1, 0, 0, 0, 0, 1, 0, 0, 0, 1, 1, 0, 2, 3, 3, 0, 3, 0, 7, 0, 7, 0, 7, 0, 7, 7, 3, 7, 7, 7, 4, 4, 4, 0, 4, 0, 8, 8, 0, 8, 0, 8, 8, 4, 8, 8, 8, 0, 8, 0, 8, 8, 4, 8, 8, 8, 0, 8, 0, 8, 8, 4, 8, 8, 10, 5, 5, 5, 5, 5, 0, 3, 0, 5, 0, 4, 0])
noncomputable def tgGe2 : Tg := (gl (gf (gl g0 [6]) (gl (gf (gl g0 [6]) (gl g0 [0, 8, 0, 8, 0, 8, 8, 3, 8, 8, 16, 0, 6])) [0, 8, 0, 8, 0, 8, 8, 3, 8, 8, 8, 5, 5, 5, 0, 5, 0, 12, 12, 0, 12, 0, 12, 12, 5, 12, 12, 12, 0, 12, 0, 12, 12, 5, 12, 12, 12, 0, 12, 0, 12, 12, 5, 12, 12, 14, 6, 6, 6, 6, 6, 0, 3, 0, 6, 0, 4, 0])) [1, 0, 0, 0, 6, 6, 6, 6, 6, 6, 6, 1, 0, 0, 0, 1, 0, 0, 0, 1, 0, 0, 0, 0, 1, 2, 6, 0, 0, 0, 1, 0, 0, 7, 7, 7, 7, 7, 7, 0, 0, 7, 0, 0, 0, 0, 7, 0, 7, 7, 7, 0, 0, 0, 0, 7, 0, 0, 0, 0, 0, 7, 6, 6, 6, 1, 0, 0, 0, 0, 1, 0, 0, 0, 1, 1, 0, 2, 3, 3, 0, 3, 0, 8, 0, 8, 0, 8, 0, 8, 8, 3, 8, 8, 8, 4, 4, 4, 0, 4, 0, 9, 9, 0, 9, 0, 9, 9, 4, 9, 9, 9, 0, 9, 0, 9, 9, 4, 9, 9, 9, 0, 9, 0, 9, 9, 4, 9, 9, 11, 6, 6, 6, 6, 6, 0, 3, 0, 6, 0, 4, 0])
noncomputable def tgGe3 : Tg := (gl (gf (gl g0 [7]) (gl (gf (gl g0 [7]) (gl (gf (gl g0 [7]) (gl g0 [0, 9, 0, 9, 0, 9, 9, 3, 9, 9, 20, 0, 7])) [0, 9, 0, 9, 0, 9, 9, 3, 9, 9, 9, 6, 6, 6, 0, 6, 0, 16, 16, 0, 16, 0, 16, 16, 6, 16, 16, 16, 0, 16, 0, 16, 16, 6, 16, 16, 16, 0, 16, 0, 16, 16, 6, 16, 16, 18, 7, 7, 7, 7, 7, 0, 3, 0, 7, 0, 4, 0])) [0, 9, 0, 9, 0, 9, 9, 3, 9, 9, 9, 5, 5, 5, 0, 5, 0, 13, 13, 0, 13, 0, 13, 13, 5, 13, 13, 13, 0, 13, 0, 13, 13, 5, 13, 13, 13, 0, 13, 0, 13, 13, 5, 13, 13, 15, 7, 7, 7, 7, 7, 0, 3, 0, 7, 0, 4, 0])) [1, 0, 0, 0, 7, 7, 7, 7, 7, 7, 7, 1, 0, 0, 0, 1, 0, 0, 0, 1, 0, 0, 0, 0, 1, 2, 7, 0, 0, 0, 1, 0, 0, 8, 8, 8, 8, 8, 8, 0, 0, 8, 0, 0, 0, 0, 8, 0, 8, 8, 8, 0, 0, 0, 0, 8, 0, 0, 0, 0, 0, 8, 7, 7, 7, 1, 0, 0, 0, 0, 1, 0, 0, 0, 1, 1, 0, 2, 3, 3, 0, 3, 0, 9, 0, 9, 0, 9, 0, 9, 9, 3, 9, 9, 9, 4, 4, 4, 0, 4, 0, 10, 10, 0, 10, 0, 10, 10, 4, 10, 10, 10, 0, 10, 0, 10, 10, 4, 10, 10, 10, 0, 10, 0, 10, 10, 4, 10, 10, 12, 7, 7, 7, 7, 7, 0, 3, 0, 7, 0, 4, 0])
noncomputable def tgGe4 : Tg := (gl (gf (gl g0 [8]) (gl (gf (gl g0 [8]) (gl (gf (gl g0 [8]) (gl (gf (gl g0 [8]) (gl g0 [0, 10, 0, 10, 0, 10, 10, 3, 10, 10, 24, 0, 8])) [0, 10, 0, 10, 0, 10, 10, 3, 10, 10, 10, 7, 7, 7, 0, 7, 0, 20, 20, 0, 20, 0, 20, 20, 7, 20, 20, 20, 0, 20, 0, 20, 20, 7, 20, 20, 20, 0, 20, 0, 20, 20, 7, 20, 20, 22, 8, 8, 8, 8, 8, 0, 3, 0, 8, 0, 4, 0])) [0, 10, 0, 10, 0, 10, 10, 3, 10, 10, 10, 6, 6, 6, 0, 6, 0, 17, 17, 0, 17, 0, 17, 17, 6, 17, 17, 17, 0, 17, 0, 17, 17, 6, 17, 17, 17, 0, 17, 0, 17, 17, 6, 17, 17, 19, 8, 8, 8, 8, 8, 0, 3, 0, 8, 0, 4, 0])) [0, 10, 0, 10, 0, 10, 10, 3, 10, 10, 10, 5, 5, 5, 0, 5, 0, 14, 14, 0, 14, 0, 14, 14, 5, 14, 14, 14, 0, 14, 0, 14, 14, 5, 14, 14, 14, 0, 14, 0, 14, 14, 5, 14, 14, 16, 8, 8, 8, 8, 8, 0, 3, 0, 8, 0, 4, 0])) [1, 0, 0, 0, 8, 8, 8, 8, 8, 8, 8, 1, 0, 0, 0, 1, 0, 0, 0, 1, 0, 0, 0, 0, 1, 2, 8, 0, 0, 0, 1, 0, 0, 9, 9, 9, 9, 9, 9, 0, 0, 9, 0, 0, 0, 0, 9, 0, 9, 9, 9, 0, 0, 0, 0, 9, 0, 0, 0, 0, 0, 9, 8, 8, 8, 1, 0, 0, 0, 0, 1, 0, 0, 0, 1, 1, 0, 2, 3, 3, 0, 3, 0, 10, 0, 10, 0, 10, 0, 10, 10, 3, 10, 10, 10, 4, 4, 4, 0, 4, 0, 11, 11, 0, 11, 0, 11, 11, 4, 11, 11, 11, 0, 11, 0, 11, 11, 4, 11, 11, 11, 0, 11, 0, 11, 11, 4, 11, 11, 13, 8, 8, 8, 8, 8, 0, 3, 0, 8, 0, 4, 0])
noncomputable def tgGe5 : Tg := (gl (gf (gl g0 [9]) (gl (gf (gl g0 [9]) (gl (gf (gl g0 [9]) (gl (gf (gl g0 [9]) (gl (gf (gl g0 [9]) (gl g0 [0, 11, 0, 11, 0, 11, 11, 3, 11, 11, 28, 0, 9])) [0, 11, 0, 11, 0, 11, 11, 3, 11, 11, 11, 8, 8, 8, 0, 8, 0, 24, 24, 0, 24, 0, 24, 24, 8, 24, 24, 24, 0, 24, 0, 24, 24, 8, 24, 24, 24, 0, 24, 0, 24, 24, 8, 24, 24, 26, 9, 9, 9, 9, 9, 0, 3, 0, 9, 0, 4, 0])) [0, 11, 0, 11, 0, 11, 11, 3, 11, 11, 11, 7, 7, 7, 0, 7, 0, 21, 21, 0, 21, 0, 21, 21, 7, 21, 21, 21, 0, 21, 0, 21, 21, 7, 21, 21, 21, 0, 21, 0, 21, 21, 7, 21, 21, 23, 9, 9, 9, 9, 9, 0, 3, 0, 9, 0, 4, 0])) [0, 11, 0, 11, 0, 11, 11, 3, 11, 11, 11, 6, 6, 6, 0, 6, 0, 18, 18, 0, 18, 0, 18, 18, 6, 18, 18, 18, 0, 18, 0, 18, 18, 6, 18, 18, 18, 0, 18, 0, 18, 18, 6, 18, 18, 20, 9, 9, 9, 9, 9, 0, 3, 0, 9, 0, 4, 0])) [0, 11, 0, 11, 0, 11, 11, 3, 11, 11, 11, 5, 5, 5, 0, 5, 0, 15, 15, 0, 15, 0, 15, 15, 5, 15, 15, 15, 0, 15, 0, 15, 15, 5, 15, 15, 15, 0, 15, 0, 15, 15, 5, 15, 15, 17, 9, 9, 9, 9, 9, 0, 3, 0, 9, 0, 4, 0])) [1, 0, 0, 0, 9, 9, 9, 9, 9, 9, 9, 1, 0, 0, 0, 1, 0, 0, 0, 1, 0, 0, 0, 0, 1, 2, 9, 0, 0, 0, 1, 0, 0, 10, 10, 10, 10, 10, 10, 0, 0, 10, 0, 0, 0, 0, 10, 0, 10, 10, 10, 0, 0, 0, 0, 10, 0, 0, 0, 0, 0, 10, 9, 9, 9, 1, 0, 0, 0, 0, 1, 0, 0, 0, 1, 1, 0, 2, 3, 3, 0, 3, 0, 11, 0, 11, 0, 11, 0, 11, 11, 3, 11, 11, 11, 4, 4, 4, 0, 4, 0, 12, 12, 0, 12, 0, 12, 12, 4, 12, 12, 12, 0, 12, 0, 12, 12, 4, 12, 12, 12, 0, 12, 0, 12, 12, 4, 12, 12, 14, 9, 9, 9, 9, 9, 0, 3, 0, 9, 0, 4, 0])
noncomputable def tgGe6 : Tg := (gl (gf (gl g0 [10]) (gl (gf (gl g0 [10]) (gl (gf (gl g0 [10]) (gl (gf (gl g0 [10]) (gl (gf (gl g0 [10]) (gl (gf (gl g0 [10]) (gl g0 [0, 12, 0, 12, 0, 12, 12, 3, 12, 12, 32, 0, 10])) [0, 12, 0, 12, 0, 12, 12, 3, 12, 12, 12, 9, 9, 9, 0, 9, 0, 28, 28, 0, 28, 0, 28, 28, 9, 28, 28, 28, 0, 28, 0, 28, 28, 9, 28, 28, 28, 0, 28, 0, 28, 28, 9, 28, 28, 30, 10, 10, 10, 10, 10, 0, 3, 0, 10, 0, 4, 0])) [0, 12, 0, 12, 0, 12, 12, 3, 12, 12, 12, 8, 8, 8, 0, 8, 0, 25, 25, 0, 25, 0, 25, 25, 8, 25, 25, 25, 0, 25, 0, 25, 25, 8, 25, 25, 25, 0, 25, 0, 25, 25, 8, 25, 25, 27, 10, 10, 10, 10, 10, 0, 3, 0, 10, 0, 4, 0])) [0, 12, 0, 12, 0, 12, 12, 3, 12, 12, 12, 7, 7, 7, 0, 7, 0, 22, 22, 0, 22, 0, 22, 22, 7, 22, 22, 22, 0, 22, 0, 22, 22, 7, 22, 22, 22, 0, 22, 0, 22, 22, 7, 22, 22, 24, 10, 10, 10, 10, 10, 0, 3, 0, 10, 0, 4, 0])) [0, 12, 0, 12, 0, 12, 12, 3, 12, 12, 12, 6, 6, 6, 0, 6, 0, 19, 19, 0, 19, 0, 19, 19, 6, 19, 19, 19, 0, 19, 0, 19, 19, 6, 19, 19, 19, 0, 19, 0, 19, 19, 6, 19, 19, 21, 10, 10, 10, 10, 10, 0, 3, 0, 10, 0, 4, 0])) [0, 12, 0, 12, 0, 12, 12, 3, 12, 12, 12, 5, 5, 5, 0, 5, 0, 16, 16, 0, 16, 0, 16, 16, 5, 16, 16, 16, 0, 16, 0, 16, 16, 5, 16, 16, 16, 0, 16, 0, 16, 16, 5, 16, 16, 18, 10, 10, 10, 10, 10, 0, 3, 0, 10, 0, 4, 0])) [1, 0, 0, 0, 10, 10, 10, 10, 10, 10, 10, 1, 0, 0, 0, 1, 0, 0, 0, 1, 0, 0, 0, 0, 1, 2, 10, 0, 0, 0, 1, 0, 0, 11, 11, 11, 11, 11, 11, 0, 0, 11, 0, 0, 0, 0, 11, 0, 11, 11, 11, 0, 0, 0, 0, 11, 0, 0, 0, 0, 0, 11, 10, 10, 10, 1, 0, 0, 0, 0, 1, 0, 0, 0, 1, 1, 0, 2, 3, 3, 0, 3, 0, 12, 0, 12, 0, 12, 0, 12, 12, 3, 12, 12, 12, 4, 4, 4, 0, 4, 0, 13, 13, 0, 13, 0, 13, 13, 4, 13, 13, 13, 0, 13, 0, 13, 13, 4, 13, 13, 13, 0, 13, 0, 13, 13, 4, 13, 13, 15, 10, 10, 10, 10, 10, 0, 3, 0, 10, 0, 4, 0])
set_option maxHeartbeats 0
theorem get_chk1x0 (P : Params) (b1 b2 : Bool) (y : HX) (h0 : HR) (e : Nat) (tn : Tok) (N tk : Nat) : (ckGet P b1 b2 y [h0] e 0 tn N tk tgGe1).lhs = (ckGet P b1 b2 y [h0] e 0 tn N tk tgGe1).rhs := by
  cases b1 <;> kernel_rfl
theorem get_chk1x1 (P : Params) (b1 b2 : Bool) (y : HX) (h0 : HR) (e : Nat) (tn : Tok) (N tk : Nat) : (ckGet P b1 b2 y [h0] e 1 tn N tk tgGe1).lhs = (ckGet P b1 b2 y [h0] e 1 tn N tk tgGe1).rhs := by
  cases b1 <;> kernel_rfl
theorem get_chk1x2 (P : Params) (b1 b2 : Bool) (y : HX) (h0 : HR) (e : Nat) (tn : Tok) (N tk : Nat) : (ckGet P b1 b2 y [h0] e 2 tn N tk tgGe1).lhs = (ckGet P b1 b2 y [h0] e 2 tn N tk tgGe1).rhs := by
  cases b1 <;> kernel_rfl
theorem get_chk1x3 (P : Params) (b1 b2 : Bool) (y : HX) (h0 : HR) (e : Nat) (tn : Tok) (N tk : Nat) : (ckGet P b1 b2 y [h0] e 3 tn N tk tgGe1).lhs = (ckGet P b1 b2 y [h0] e 3 tn N tk tgGe1).rhs := by
  cases b1 <;> kernel_rfl
theorem get_chk1x4 (P : Params) (b1 b2 : Bool) (y : HX) (h0 : HR) (e : Nat) (tn : Tok) (N tk : Nat) : (ckGet P b1 b2 y [h0] e 4 tn N tk tgGe1).lhs = (ckGet P b1 b2 y [h0] e 4 tn N tk tgGe1).rhs := by
  cases b1 <;> kernel_rfl
theorem get_chk1x5 (P : Params) (b1 b2 : Bool) (y : HX) (h0 : HR) (e : Nat) (tn : Tok) (N tk : Nat) : (ckGet P b1 b2 y [h0] e 5 tn N tk tgGe1).lhs = (ckGet P b1 b2 y [h0] e 5 tn N tk tgGe1).rhs := by
  cases b1 <;> kernel_rfl
theorem get_chk2x0 (P : Params) (b1 b2 : Bool) (y : HX) (h0 h1 : HR) (e : Nat) (tn : Tok) (N tk : Nat) : (ckGet P b1 b2 y [h0, h1] e 0 tn N tk tgGe2).lhs = (ckGet P b1 b2 y [h0, h1] e 0 tn N tk tgGe2).rhs := by
  cases b1 <;> kernel_rfl
theorem get_chk2x1 (P : Params) (b1 b2 : Bool) (y : HX) (h0 h1 : HR) (e : Nat) (tn : Tok) (N tk : Nat) : (ckGet P b1 b2 y [h0, h1] e 1 tn N tk tgGe2).lhs = (ckGet P b1 b2 y [h0, h1] e 1 tn N tk tgGe2).rhs := by
  cases b1 <;> kernel_rfl
theorem get_chk2x2 (P : Params) (b1 b2 : Bool) (y : HX) (h0 h1 : HR) (e : Nat) (tn : Tok) (N tk : Nat) : (ckGet P b1 b2 y [h0, h1] e 2 tn N tk tgGe2).lhs = (ckGet P b1 b2 y [h0, h1] e 2 tn N tk tgGe2).rhs := by
  cases b1 <;> kernel_rfl
theorem get_chk2x3 (P : Params) (b1 b2 : Bool) (y : HX) (h0 h1 : HR) (e : Nat) (tn : Tok) (N tk : Nat) : (ckGet P b1 b2 y [h0, h1] e 3 tn N tk tgGe2).lhs = (ckGet P b1 b2 y [h0, h1] e 3 tn N tk tgGe2).rhs := by
  cases b1 <;> kernel_rfl
theorem get_chk2x4 (P : Params) (b1 b2 : Bool) (y : HX) (h0 h1 : HR) (e : Nat) (tn : Tok) (N tk : Nat) : (ckGet P b1 b2 y [h0, h1] e 4 tn N tk tgGe2).lhs = (ckGet P b1 b2 y [h0, h1] e 4 tn N tk tgGe2).rhs := by
  cases b1 <;> kernel_rfl
theorem get_chk2x5 (P : Params) (b1 b2 : Bool) (y : HX) (h0 h1 : HR) (e : Nat) (tn : Tok) (N tk : Nat) : (ckGet P b1 b2 y [h0, h1] e 5 tn N tk tgGe2).lhs = (ckGet P b1 b2 y [h0, h1] e 5 tn N tk tgGe2).rhs := by
  cases b1 <;> kernel_rfl
theorem get_chk3x0 (P : Params) (b1 b2 : Bool) (y : HX) (h0 h1 h2 : HR) (e : Nat) (tn : Tok) (N tk : Nat) : (ckGet P b1 b2 y [h0, h1, h2] e 0 tn N tk tgGe3).lhs = (ckGet P b1 b2 y [h0, h1, h2] e 0 tn N tk tgGe3).rhs := by
  cases b1 <;> kernel_rfl
theorem get_chk3x1 (P : Params) (b1 b2 : Bool) (y : HX) (h0 h1 h2 : HR) (e : Nat) (tn : Tok) (N tk : Nat) : (ckGet P b1 b2 y [h0, h1, h2] e 1 tn N tk tgGe3).lhs = (ckGet P b1 b2 y [h0, h1, h2] e 1 tn N tk tgGe3).rhs := by
  cases b1 <;> kernel_rfl
theorem get_chk3x2 (P : Params) (b1 b2 : Bool) (y : HX) (h0 h1 h2 : HR) (e : Nat) (tn : Tok) (N tk : Nat) : (ckGet P b1 b2 y [h0, h1, h2] e 2 tn N tk tgGe3).lhs = (ckGet P b1 b2 y [h0, h1, h2] e 2 tn N tk tgGe3).rhs := by
  cases b1 <;> kernel_rfl
theorem get_chk3x3 (P : Params) (b1 b2 : Bool) (y : HX) (h0 h1 h2 : HR) (e : Nat) (tn : Tok) (N tk : Nat) : (ckGet P b1 b2 y [h0, h1, h2] e 3 tn N tk tgGe3).lhs = (ckGet P b1 b2 y [h0, h1, h2] e 3 tn N tk tgGe3).rhs := by
  cases b1 <;> kernel_rfl
theorem get_chk3x4 (P : Params) (b1 b2 : Bool) (y : HX) (h0 h1 h2 : HR) (e : Nat) (tn : Tok) (N tk : Nat) : (ckGet P b1 b2 y [h0, h1, h2] e 4 tn N tk tgGe3).lhs = (ckGet P b1 b2 y [h0, h1, h2] e 4 tn N tk tgGe3).rhs := by
  cases b1 <;> kernel_rfl
theorem get_chk3x5 (P : Params) (b1 b2 : Bool) (y : HX) (h0 h1 h2 : HR) (e : Nat) (tn : Tok) (N tk : Nat) : (ckGet P b1 b2 y [h0, h1, h2] e 5 tn N tk tgGe3).lhs = (ckGet P b1 b2 y [h0, h1, h2] e 5 tn N tk tgGe3).rhs := by
  cases b1 <;> kernel_rfl
theorem get_chk4x0 (P : Params) (b1 b2 : Bool) (y : HX) (h0 h1 h2 h3 : HR) (e : Nat) (tn : Tok) (N tk : Nat) : (ckGet P b1 b2 y [h0, h1, h2, h3] e 0 tn N tk tgGe4).lhs = (ckGet P b1 b2 y [h0, h1, h2, h3] e 0 tn N tk tgGe4).rhs := by
  cases b1 <;> kernel_rfl
theorem get_chk4x1 (P : Params) (b1 b2 : Bool) (y : HX) (h0 h1 h2 h3 : HR) (e : Nat) (tn : Tok) (N tk : Nat) : (ckGet P b1 b2 y [h0, h1, h2, h3] e 1 tn N tk tgGe4).lhs = (ckGet P b1 b2 y [h0, h1, h2, h3] e 1 tn N tk tgGe4).rhs := by
  cases b1 <;> kernel_rfl
theorem get_chk4x2 (P : Params) (b1 b2 : Bool) (y : HX) (h0 h1 h2 h3 : HR) (e : Nat) (tn : Tok) (N tk : Nat) : (ckGet P b1 b2 y [h0, h1, h2, h3] e 2 tn N tk tgGe4).lhs = (ckGet P b1 b2 y [h0, h1, h2, h3] e 2 tn N tk tgGe4).rhs := by
  cases b1 <;> kernel_rfl
theorem get_chk4x3 (P : Params) (b1 b2 : Bool) (y : HX) (h0 h1 h2 h3 : HR) (e : Nat) (tn : Tok) (N tk : Nat) : (ckGet P b1 b2 y [h0, h1, h2, h3] e 3 tn N tk tgGe4).lhs = (ckGet P b1 b2 y [h0, h1, h2, h3] e 3 tn N tk tgGe4).rhs := by
  cases b1 <;> kernel_rfl
theorem get_chk4x4 (P : Params) (b1 b2 : Bool) (y : HX) (h0 h1 h2 h3 : HR) (e : Nat) (tn : Tok) (N tk : Nat) : (ckGet P b1 b2 y [h0, h1, h2, h3] e 4 tn N tk tgGe4).lhs = (ckGet P b1 b2 y [h0, h1, h2, h3] e 4 tn N tk tgGe4).rhs := by
  cases b1 <;> kernel_rfl
theorem get_chk4x5 (P : Params) (b1 b2 : Bool) (y : HX) (h0 h1 h2 h3 : HR) (e : Nat) (tn : Tok) (N tk : Nat) : (ckGet P b1 b2 y [h0, h1, h2, h3] e 5 tn N tk tgGe4).lhs = (ckGet P b1 b2 y [h0, h1, h2, h3] e 5 tn N tk tgGe4).rhs := by
  cases b1 <;> kernel_rfl
theorem get_chk5x0 (P : Params) (b1 b2 : Bool) (y : HX) (h0 h1 h2 h3 h4 : HR) (e : Nat) (tn : Tok) (N tk : Nat) : (ckGet P b1 b2 y [h0, h1, h2, h3, h4] e 0 tn N tk tgGe5).lhs = (ckGet P b1 b2 y [h0, h1, h2, h3, h4] e 0 tn N tk tgGe5).rhs := by
  cases b1 <;> kernel_rfl
theorem get_chk5x1 (P : Params) (b1 b2 : Bool) (y : HX) (h0 h1 h2 h3 h4 : HR) (e : Nat) (tn : Tok) (N tk : Nat) : (ckGet P b1 b2 y [h0, h1, h2, h3, h4] e 1 tn N tk tgGe5).lhs = (ckGet P b1 b2 y [h0, h1, h2, h3, h4] e 1 tn N tk tgGe5).rhs := by
  cases b1 <;> kernel_rfl
theorem get_chk5x2 (P : Params) (b1 b2 : Bool) (y : HX) (h0 h1 h2 h3 h4 : HR) (e : Nat) (tn : Tok) (N tk : Nat) : (ckGet P b1 b2 y [h0, h1, h2, h3, h4] e 2 tn N tk tgGe5).lhs = (ckGet P b1 b2 y [h0, h1, h2, h3, h4] e 2 tn N tk tgGe5).rhs := by
  cases b1 <;> kernel_rfl
theorem get_chk5x3 (P : Params) (b1 b2 : Bool) (y : HX) (h0 h1 h2 h3 h4 : HR) (e : Nat) (tn : Tok) (N tk : Nat) : (ckGet P b1 b2 y [h0, h1, h2, h3, h4] e 3 tn N tk tgGe5).lhs = (ckGet P b1 b2 y [h0, h1, h2, h3, h4] e 3 tn N tk tgGe5).rhs := by
  cases b1 <;> kernel_rfl
theorem get_chk5x4 (P : Params) (b1 b2 : Bool) (y : HX) (h0 h1 h2 h3 h4 : HR) (e : Nat) (tn : Tok) (N tk : Nat) : (ckGet P b1 b2 y [h0, h1, h2, h3, h4] e 4 tn N tk tgGe5).lhs = (ckGet P b1 b2 y [h0, h1, h2, h3, h4] e 4 tn N tk tgGe5).rhs := by
  cases b1 <;> kernel_rfl
theorem get_chk5x5 (P : Params) (b1 b2 : Bool) (y : HX) (h0 h1 h2 h3 h4 : HR) (e : Nat) (tn : Tok) (N tk : Nat) : (ckGet P b1 b2 y [h0, h1, h2, h3, h4] e 5 tn N tk tgGe5).lhs = (ckGet P b1 b2 y [h0, h1, h2, h3, h4] e 5 tn N tk tgGe5).rhs := by
  cases b1 <;> kernel_rfl
theorem get_chk6x0 (P : Params) (b1 b2 : Bool) (y : HX) (h0 h1 h2 h3 h4 h5 : HR) (e : Nat) (tn : Tok) (N tk : Nat) : (ckGet P b1 b2 y [h0, h1, h2, h3, h4, h5] e 0 tn N tk tgGe6).lhs = (ckGet P b1 b2 y [h0, h1, h2, h3, h4, h5] e 0 tn N tk tgGe6).rhs := by
  cases b1 <;> kernel_rfl
theorem get_chk6x1 (P : Params) (b1 b2 : Bool) (y : HX) (h0 h1 h2 h3 h4 h5 : HR) (e : Nat) (tn : Tok) (N tk : Nat) : (ckGet P b1 b2 y [h0, h1, h2, h3, h4, h5] e 1 tn N tk tgGe6).lhs = (ckGet P b1 b2 y [h0, h1, h2, h3, h4, h5] e 1 tn N tk tgGe6).rhs := by
  cases b1 <;> kernel_rfl
theorem get_chk6x2 (P : Params) (b1 b2 : Bool) (y : HX) (h0 h1 h2 h3 h4 h5 : HR) (e : Nat) (tn : Tok) (N tk : Nat) : (ckGet P b1 b2 y [h0, h1, h2, h3, h4, h5] e 2 tn N tk tgGe6).lhs = (ckGet P b1 b2 y [h0, h1, h2, h3, h4, h5] e 2 tn N tk tgGe6).rhs := by
  cases b1 <;> kernel_rfl
theorem get_chk6x3 (P : Params) (b1 b2 : Bool) (y : HX) (h0 h1 h2 h3 h4 h5 : HR) (e : Nat) (tn : Tok) (N tk : Nat) : (ckGet P b1 b2 y [h0, h1, h2, h3, h4, h5] e 3 tn N tk tgGe6).lhs = (ckGet P b1 b2 y [h0, h1, h2, h3, h4, h5] e 3 tn N tk tgGe6).rhs := by
  cases b1 <;> kernel_rfl
theorem get_chk6x4 (P : Params) (b1 b2 : Bool) (y : HX) (h0 h1 h2 h3 h4 h5 : HR) (e : Nat) (tn : Tok) (N tk : Nat) : (ckGet P b1 b2 y [h0, h1, h2, h3, h4, h5] e 4 tn N tk tgGe6).lhs = (ckGet P b1 b2 y [h0, h1, h2, h3, h4, h5] e 4 tn N tk tgGe6).rhs := by
  cases b1 <;> kernel_rfl
theorem get_chk6x5 (P : Params) (b1 b2 : Bool) (y : HX) (h0 h1 h2 h3 h4 h5 : HR) (e : Nat) (tn : Tok) (N tk : Nat) : (ckGet P b1 b2 y [h0, h1, h2, h3, h4, h5] e 5 tn N tk tgGe6).lhs = (ckGet P b1 b2 y [h0, h1, h2, h3, h4, h5] e 5 tn N tk tgGe6).rhs := by
  cases b1 <;> kernel_rfl
theorem get_raw0 (w : World) (y : HX) (e : Nat) (tn : Tok) : ∀ hs : List HR, hs ≠ [] → hs.length ≤ 6 → CodeSpec pw0 w (ko w.params) 342 3950 (cGet y 0 tn) (tabPre y (hRefs hs) e ++ hEnts hs) (getT 0 (tabOs y (hRefs hs) e ++ hObjs hs) hs)
  | [], h, _ => absurd rfl h
  | [h0], _, _ => spec_of w (rulesG_ok _ _ _) fun b1 b2 N tk => get_chk1x0 w.params b1 b2 y h0 e tn N tk
  | [h0, h1], _, _ => spec_of w (rulesG_ok _ _ _) fun b1 b2 N tk => get_chk2x0 w.params b1 b2 y h0 h1 e tn N tk
  | [h0, h1, h2], _, _ => spec_of w (rulesG_ok _ _ _) fun b1 b2 N tk => get_chk3x0 w.params b1 b2 y h0 h1 h2 e tn N tk
  | [h0, h1, h2, h3], _, _ => spec_of w (rulesG_ok _ _ _) fun b1 b2 N tk => get_chk4x0 w.params b1 b2 y h0 h1 h2 h3 e tn N tk
  | [h0, h1, h2, h3, h4], _, _ => spec_of w (rulesG_ok _ _ _) fun b1 b2 N tk => get_chk5x0 w.params b1 b2 y h0 h1 h2 h3 h4 e tn N tk
  | [h0, h1, h2, h3, h4, h5], _, _ => spec_of w (rulesG_ok _ _ _) fun b1 b2 N tk => get_chk6x0 w.params b1 b2 y h0 h1 h2 h3 h4 h5 e tn N tk
  | _ :: _ :: _ :: _ :: _ :: _ :: _ :: _, _, h => by simp only [List.length_cons] at h; omega
theorem get_raw1 (w : World) (y : HX) (e : Nat) (tn : Tok) : ∀ hs : List HR, hs ≠ [] → hs.length ≤ 6 → CodeSpec pw0 w (ko w.params) 342 3950 (cGet y 1 tn) (tabPre y (hRefs hs) e ++ hEnts hs) (getT 1 (tabOs y (hRefs hs) e ++ hObjs hs) hs)
  | [], h, _ => absurd rfl h
  | [h0], _, _ => spec_of w (rulesG_ok _ _ _) fun b1 b2 N tk => get_chk1x1 w.params b1 b2 y h0 e tn N tk
  | [h0, h1], _, _ => spec_of w (rulesG_ok _ _ _) fun b1 b2 N tk => get_chk2x1 w.params b1 b2 y h0 h1 e tn N tk
  | [h0, h1, h2], _, _ => spec_of w (rulesG_ok _ _ _) fun b1 b2 N tk => get_chk3x1 w.params b1 b2 y h0 h1 h2 e tn N tk
  | [h0, h1, h2, h3], _, _ => spec_of w (rulesG_ok _ _ _) fun b1 b2 N tk => get_chk4x1 w.params b1 b2 y h0 h1 h2 h3 e tn N tk
  | [h0, h1, h2, h3, h4], _, _ => spec_of w (rulesG_ok _ _ _) fun b1 b2 N tk => get_chk5x1 w.params b1 b2 y h0 h1 h2 h3 h4 e tn N tk
  | [h0, h1, h2, h3, h4, h5], _, _ => spec_of w (rulesG_ok _ _ _) fun b1 b2 N tk => get_chk6x1 w.params b1 b2 y h0 h1 h2 h3 h4 h5 e tn N tk
  | _ :: _ :: _ :: _ :: _ :: _ :: _ :: _, _, h => by simp only [List.length_cons] at h; omega
theorem get_raw2 (w : World) (y : HX) (e : Nat) (tn : Tok) : ∀ hs : List HR, hs ≠ [] → hs.length ≤ 6 → CodeSpec pw0 w (ko w.params) 342 3950 (cGet y 2 tn) (tabPre y (hRefs hs) e ++ hEnts hs) (getT 2 (tabOs y (hRefs hs) e ++ hObjs hs) hs)
  | [], h, _ => absurd rfl h
  | [h0], _, _ => spec_of w (rulesG_ok _ _ _) fun b1 b2 N tk => get_chk1x2 w.params b1 b2 y h0 e tn N tk
  | [h0, h1], _, _ => spec_of w (rulesG_ok _ _ _) fun b1 b2 N tk => get_chk2x2 w.params b1 b2 y h0 h1 e tn N tk
  | [h0, h1, h2], _, _ => spec_of w (rulesG_ok _ _ _) fun b1 b2 N tk => get_chk3x2 w.params b1 b2 y h0 h1 h2 e tn N tk
  | [h0, h1, h2, h3], _, _ => spec_of w (rulesG_ok _ _ _) fun b1 b2 N tk => get_chk4x2 w.params b1 b2 y h0 h1 h2 h3 e tn N tk
  | [h0, h1, h2, h3, h4], _, _ => spec_of w (rulesG_ok _ _ _) fun b1 b2 N tk => get_chk5x2 w.params b1 b2 y h0 h1 h2 h3 h4 e tn N tk
  | [h0, h1, h2, h3, h4, h5], _, _ => spec_of w (rulesG_ok _ _ _) fun b1 b2 N tk => get_chk6x2 w.params b1 b2 y h0 h1 h2 h3 h4 h5 e tn N tk
  | _ :: _ :: _ :: _ :: _ :: _ :: _ :: _, _, h => by simp only [List.length_cons] at h; omega
theorem get_raw3 (w : World) (y : HX) (e : Nat) (tn : Tok) : ∀ hs : List HR, hs ≠ [] → hs.length ≤ 6 → CodeSpec pw0 w (ko w.params) 342 3950 (cGet y 3 tn) (tabPre y (hRefs hs) e ++ hEnts hs) (getT 3 (tabOs y (hRefs hs) e ++ hObjs hs) hs)
  | [], h, _ => absurd rfl h
  | [h0], _, _ => spec_of w (rulesG_ok _ _ _) fun b1 b2 N tk => get_chk1x3 w.params b1 b2 y h0 e tn N tk
  | [h0, h1], _, _ => spec_of w (rulesG_ok _ _ _) fun b1 b2 N tk => get_chk2x3 w.params b1 b2 y h0 h1 e tn N tk
  | [h0, h1, h2], _, _ => spec_of w (rulesG_ok _ _ _) fun b1 b2 N tk => get_chk3x3 w.params b1 b2 y h0 h1 h2 e tn N tk
  | [h0, h1, h2, h3], _, _ => spec_of w (rulesG_ok _ _ _) fun b1 b2 N tk => get_chk4x3 w.params b1 b2 y h0 h1 h2 h3 e tn N tk
  | [h0, h1, h2, h3, h4], _, _ => spec_of w (rulesG_ok _ _ _) fun b1 b2 N tk => get_chk5x3 w.params b1 b2 y h0 h1 h2 h3 h4 e tn N tk
  | [h0, h1, h2, h3, h4, h5], _, _ => spec_of w (rulesG_ok _ _ _) fun b1 b2 N tk => get_chk6x3 w.params b1 b2 y h0 h1 h2 h3 h4 h5 e tn N tk
  | _ :: _ :: _ :: _ :: _ :: _ :: _ :: _, _, h => by simp only [List.length_cons] at h; omega
theorem get_raw4 (w : World) (y : HX) (e : Nat) (tn : Tok) : ∀ hs : List HR, hs ≠ [] → hs.length ≤ 6 → CodeSpec pw0 w (ko w.params) 342 3950 (cGet y 4 tn) (tabPre y (hRefs hs) e ++ hEnts hs) (getT 4 (tabOs y (hRefs hs) e ++ hObjs hs) hs)
  | [], h, _ => absurd rfl h
  | [h0], _, _ => spec_of w (rulesG_ok _ _ _) fun b1 b2 N tk => get_chk1x4 w.params b1 b2 y h0 e tn N tk
  | [h0, h1], _, _ => spec_of w (rulesG_ok _ _ _) fun b1 b2 N tk => get_chk2x4 w.params b1 b2 y h0 h1 e tn N tk
  | [h0, h1, h2], _, _ => spec_of w (rulesG_ok _ _ _) fun b1 b2 N tk => get_chk3x4 w.params b1 b2 y h0 h1 h2 e tn N tk
  | [h0, h1, h2, h3], _, _ => spec_of w (rulesG_ok _ _ _) fun b1 b2 N tk => get_chk4x4 w.params b1 b2 y h0 h1 h2 h3 e tn N tk
  | [h0, h1, h2, h3, h4], _, _ => spec_of w (rulesG_ok _ _ _) fun b1 b2 N tk => get_chk5x4 w.params b1 b2 y h0 h1 h2 h3 h4 e tn N tk
  | [h0, h1, h2, h3, h4, h5], _, _ => spec_of w (rulesG_ok _ _ _) fun b1 b2 N tk => get_chk6x4 w.params b1 b2 y h0 h1 h2 h3 h4 h5 e tn N tk
  | _ :: _ :: _ :: _ :: _ :: _ :: _ :: _, _, h => by simp only [List.length_cons] at h; omega
theorem get_raw5 (w : World) (y : HX) (e : Nat) (tn : Tok) : ∀ hs : List HR, hs ≠ [] → hs.length ≤ 6 → CodeSpec pw0 w (ko w.params) 342 3950 (cGet y 5 tn) (tabPre y (hRefs hs) e ++ hEnts hs) (getT 5 (tabOs y (hRefs hs) e ++ hObjs hs) hs)
  | [], h, _ => absurd rfl h
  | [h0], _, _ => spec_of w (rulesG_ok _ _ _) fun b1 b2 N tk => get_chk1x5 w.params b1 b2 y h0 e tn N tk
  | [h0, h1], _, _ => spec_of w (rulesG_ok _ _ _) fun b1 b2 N tk => get_chk2x5 w.params b1 b2 y h0 h1 e tn N tk
  | [h0, h1, h2], _, _ => spec_of w (rulesG_ok _ _ _) fun b1 b2 N tk => get_chk3x5 w.params b1 b2 y h0 h1 h2 e tn N tk
  | [h0, h1, h2, h3], _, _ => spec_of w (rulesG_ok _ _ _) fun b1 b2 N tk => get_chk4x5 w.params b1 b2 y h0 h1 h2 h3 e tn N tk
  | [h0, h1, h2, h3, h4], _, _ => spec_of w (rulesG_ok _ _ _) fun b1 b2 N tk => get_chk5x5 w.params b1 b2 y h0 h1 h2 h3 h4 e tn N tk
  | [h0, h1, h2, h3, h4, h5], _, _ => spec_of w (rulesG_ok _ _ _) fun b1 b2 N tk => get_chk6x5 w.params b1 b2 y h0 h1 h2 h3 h4 h5 e tn N tk
  | _ :: _ :: _ :: _ :: _ :: _ :: _ :: _, _, h => by simp only [List.length_cons] at h; omega
theorem get_raw (w : World) (y : HX) (e : Nat) {k : Nat} (hk : k ≤ 5) (tn : Tok) (hs : List HR) (h1 : hs ≠ []) (h2 : hs.length ≤ 6) : CodeSpec pw0 w (ko w.params) 342 3950 (cGet y k tn) (tabPre y (hRefs hs) e ++ hEnts hs) (getT k (tabOs y (hRefs hs) e ++ hObjs hs) hs) := by
  have hn : k = 0 ∨ k = 1 ∨ k = 2 ∨ k = 3 ∨ k = 4 ∨ k = 5 := by omega
  rcases hn with rfl | rfl | rfl | rfl | rfl | rfl
  · exact get_raw0 w y e tn hs h1 h2
  · exact get_raw1 w y e tn hs h1 h2
  · exact get_raw2 w y e tn hs h1 h2
  · exact get_raw3 w y e tn hs h1 h2
  · exact get_raw4 w y e tn hs h1 h2
  · exact get_raw5 w y e tn hs h1 h2
end Mine

namespace Mine
open PySem PySem.Spec PySem.Calls PyProof.Rows PySem.W PySem.W.X

theorem wd_length (c n : Nat) : (wd c n).length = n := by
  show (Array.mk (List.replicate n c)).size = n
  simp
/-- words of the sign c, of the lengths l, with tokens -/
noncomputable def mkL (c : Nat) (f : Nat → Tok) : Nat → List Nat → List WV
  | _, [] => []
  | i, n :: l => (wd c n, f i) :: mkL c f (i + 1) l
theorem mkL_length (c : Nat) (f : Nat → Tok) : ∀ (i : Nat) (l : List Nat), (mkL c f i l).length = l.length
  | _, [] => rfl
  | i, n :: l => by simp [mkL, mkL_length c f (i + 1) l]
theorem mkL_get (c : Nat) (f : Nat → Tok) : ∀ (i : Nat) (l : List Nat) (k : Nat), (mkL c f i l)[k]? = l[k]?.map fun n => (wd c n, f (i + k))
  | _, [], k => by simp [mkL]
  | i, n :: l, 0 => by simp [mkL]
  | i, n :: l, k + 1 => by
    simp only [mkL, List.getElem?_cons_succ]
    rw [mkL_get c f (i + 1) l k, show i + 1 + k = i + (k + 1) from by omega]
theorem mkL_fst (c : Nat) (f : Nat → Tok) : ∀ (i : Nat) (l : List Nat), (mkL c f i l).map (·.1) = l.map (wd c)
  | _, [] => rfl
  | i, n :: l => by simp [mkL, mkL_fst c f (i + 1) l]
theorem mkL_mem {c : Nat} {f : Nat → Tok} {i : Nat} {l : List Nat} {b : Nat} (h : ∀ n ∈ l, n ≤ b) : ∀ p ∈ mkL c f i l, p.1.length ≤ b := fun p hp => by
  have : p.1 ∈ (mkL c f i l).map (·.1) := List.mem_map.mpr ⟨p, hp, rfl⟩
  rw [mkL_fst] at this
  obtain ⟨n, hn, e⟩ := List.mem_map.mp this
  rw [← e, wd_length]
  exact h n hn
/-- a list of words by its texts -/
theorem mkL_of {c : Nat} {lw : List WV} {l : List Nat} (h : lw.map (·.1) = l.map (wd c)) (d : Nat) (pre : List Nat) (hd : pre.length = d) : lw = mkL c (fun i => (pre ++ lw.map (·.2)).getD (i + d) 0) 0 l := by
  apply List.ext_getElem?
  intro k
  rw [mkL_get]
  have e1 : (lw.map (·.1))[k]? = (l.map (wd c))[k]? := by rw [h]
  rw [List.getElem?_map, List.getElem?_map] at e1
  cases q : lw[k]? with
  | none =>
    rw [q] at e1
    cases q2 : l[k]? with
    | none => rfl
    | some n => rw [q2] at e1; cases e1
  | some p =>
    rw [q] at e1
    cases q2 : l[k]? with
    | none => rw [q2] at e1; cases e1
    | some n =>
      rw [q2] at e1
      simp only [Option.map_some, Option.some.injEq] at e1 ⊢
      have e2 : (pre ++ lw.map (·.2)).getD (0 + k + d) 0 = p.2 := by
        rw [List.getD_eq_getElem?_getD, List.getElem?_append_right (by omega), show 0 + k + d - pre.length = k from by omega, List.getElem?_map, q]
        rfl
      rw [e2, ← e1]
noncomputable def bisN (l : List Nat) (n : Nat) : Nat := bisT (fun i => decide (n < l.getD i 0)) 8 0 l.length
theorem bisN_is (c : Nat) (f : Nat → Tok) (l : List Nat) (n : Nat) : bisW (mkL c f 0 l) n = bisN l n := by
  unfold bisW bisN
  rw [mkL_length]
  congr 1
  funext i
  unfold qf nthW
  rw [List.getD_eq_getElem?_getD, mkL_get, List.getD_eq_getElem?_getD]
  cases l[i]? with
  | none =>
    simp only [Option.map_none, Option.getD_none]
    apply decide_eq_decide.mpr
    have : (default : Str).length = 0 := rfl
    rw [this, show Int.ofNat n = (n : Int) from rfl, show Int.ofNat 0 = ((0 : Nat) : Int) from rfl]
    omega
  | some m =>
    simp only [Option.map_some, Option.getD_some, wd_length]
    apply decide_eq_decide.mpr
    rw [show Int.ofNat n = (n : Int) from rfl, show Int.ofNat m = (m : Int) from rfl]
    omega
theorem bisN_le (l : List Nat) (n : Nat) : bisN l n ≤ l.length := bisT_le _ _ _ _ (Nat.zero_le _)
noncomputable def insN (n : Nat) (l : List Nat) (j : Nat) : List Nat := l.take j ++ n :: l.drop j
theorem insN_is (c : Nat) (f : Nat → Tok) (l : List Nat) (n j : Nat) (t : Tok) : (insA (wd c n, t) (mkL c f 0 l) j).map (·.1) = (insN n l j).map (wd c) := by
  rw [insA_is, insN]
  simp only [List.map_append, List.map_cons, List.map_take, List.map_drop, mkL_fst]
theorem cast_spec {prog : Program} {w : World} {kt : Addr → Obj → Prop} {D U : Nat} {c : Code} {es es' : List (Addr × Obj)} {sp : Spec} (he : es = es') (h : CodeSpec prog w kt D U c es' sp) : CodeSpec prog w kt D U c es sp := he ▸ h
noncomputable def tkAt (o : Obj) (i : Nat) : Tok := sTok ((itemsOf o).getD i .none)
noncomputable def oWords (c : Nat) (f : Nat → Tok) (l : List Nat) (e : Nat) : Obj := oList ((mkL c f 0 l).map wv) e
/-- insort_right of a word of the length n into words of the lengths l -/
noncomputable def rISn (c n : Nat) (l l' : List Nat) : RuleD where
  D := 342
  U := 3950
  code cd es := cIS (ad0 es) (wd c n, sTok (argV cd 1))
  objs _ es := [(ad0 es, oWords c (tkAt (ob0 es)) l (epOf (ob0 es)))]
  spec _ es := .leaf (fun _ => []) (fun ws => ⟨.res (.ok (.ret .none)), [oWords c (fun i => ws.getD (i + 0) 0) l' (epOf (ob0 es) + 1)], []⟩)
noncomputable def le1000 (l : List Nat) : Prop := ∀ n ∈ l, n ≤ 1000
theorem rISn_ok (w : World) {c n : Nat} {l l' : List Nat} (h1 : l.length ≤ 5) (h2 : le1000 l) (h3 : n ≤ 1000) (h4 : insN n l (bisN l n) = l') : RuleD.Ok pw0 w (ko w.params) (rISn c n l l') := by
  intro cd es he
  refine cast_spec he ?_
  have z := is_spec w (ad0 es) (wd c n, sTok (argV cd 1)) (epOf (ob0 es)) (l := mkL c (tkAt (ob0 es)) 0 l) (by rw [mkL_length]; exact h1)
  refine z.mono fun V h => ⟨⟨by rw [wd_length]; exact h3, mkL_mem h2⟩, fun _ hp tk E => ?_⟩
  have e := mkL_of (insN_is c (tkAt (ob0 es)) l n (bisN l n) (sTok (argV cd 1))) 0 [] rfl
  rw [h4] at e
  rw [wd_length, bisN_is, e] at E
  exact h _ hp tk E
/-- bisect_right for the length n among words of the lengths l -/
noncomputable def rBIn (c n : Nat) (l : List Nat) (j : Nat) : RuleD where
  D := 342
  U := 3950
  code cd es := cBI (ad0 es) n (argT cd 1)
  objs _ es := [(ad0 es, oWords c (tkAt (ob0 es)) l (epOf (ob0 es)))]
  spec _ es := .leaf (fun _ => []) (fun ws => ⟨.res (.ok (.ret (.int (Int.ofNat j) (ws.getD 0 0)))), [oWords c (tkAt (ob0 es)) l (epOf (ob0 es))], []⟩)
theorem rBIn_ok (w : World) {c n : Nat} {l : List Nat} {j : Nat} (h1 : l.length ≤ 5) (h2 : le1000 l) (h4 : bisN l n = j) : RuleD.Ok pw0 w (ko w.params) (rBIn c n l j) := by
  intro cd es he
  refine cast_spec he ?_
  have z := bi_spec w (ad0 es) n (argT cd 1) (epOf (ob0 es)) (l := mkL c (tkAt (ob0 es)) 0 l) (by rw [mkL_length]; exact h1)
  refine z.mono fun V h => ⟨mkL_mem h2, fun ws hp tk E => ?_⟩
  rw [bisN_is, h4] at E ⊢
  exact h ws hp tk E
/-- the word at the place j is taken out -/
noncomputable def rPopN (c : Nat) (l : List Nat) (j m : Nat) (l' : List Nat) : RuleD where
  D := 900
  U := 9000
  code cd es := .builtin (idOf cd) ⟨[.ref (ad0 es), .int (Int.ofNat j) (argT cd 1)], []⟩
  objs _ es := [(ad0 es, oWords c (tkAt (ob0 es)) l (epOf (ob0 es)))]
  spec cd es := ifId 8174157772325415533 cd (.leaf (fun _ => []) (fun ws => ⟨.res (.ok (.ret (.str (wd c m) (ws.getD 0 0)))), [oWords c (fun i => ws.getD (i + 1) 0) l' (epOf (ob0 es) + 1)], []⟩))
theorem rPopN_ok (prog : Program) (w : World) (kt : Addr → Obj → Prop) {c : Nat} {l : List Nat} {j m : Nat} {l' : List Nat} (h1 : l.length ≤ 1000) (h2 : l[j]? = some m) (h3 : l.eraseIdx j = l') : RuleD.Ok prog w kt (rPopN c l j m l') := by
  intro cd es he
  refine cast_spec he ?_
  intro A R s hA hD hU H hw
  unfold rPopN ifId at hw ⊢
  dsimp only at hw ⊢
  split at hw
  · rename_i hid
    have hid := eqLit_is "list.pop" (by decide +kernel) hid
    try rw [hid]
    have H : Start kt s.heap [(ad0 es, oWords c (tkAt (ob0 es)) l (epOf (ob0 es)))] := H
    generalize ad0 es = a at *
    generalize ob0 es = o at *
    generalize argT cd 1 = u at *
    have ef : ((mkL c (tkAt o) 0 l).eraseIdx j).map (·.1) = l'.map (wd c) := by
      rw [map_erase, mkL_fst, ← map_erase, h3]
    have e := mkL_of ef 1 [tkAt o (0 + j)] rfl
    refine pop_code (o := oWords c (tkAt o) l (epOf o)) (y := .str (wd c m) (tkAt o (0 + j))) (q := ((mkL c (tkAt o) 0 l).eraseIdx j).map wv) H rfl (by
      show ((mkL c (tkAt o) 0 l).map wv).length ≤ 1000
      rw [List.length_map, mkL_length]; exact h1) (by
      show ((mkL c (tkAt o) 0 l).map wv)[j]? = _
      rw [List.getElem?_map, mkL_get, h2]; rfl) (by
      show _ = ((mkL c (tkAt o) 0 l).map wv).eraseIdx j
      rw [map_erase]) fun E => ?_
    refine hw ([tkAt o (0 + j)] ++ ((mkL c (tkAt o) 0 l).eraseIdx j).map (·.2)) _ s.toks ?_
    rw [e] at E
    exact E
  · cases hw
/-- len of a word -/
noncomputable def rLenN (c n : Nat) : RuleD where
  D := 950
  U := 9000
  code cd _ := .builtin (idOf cd) ⟨[.str (wd c n) (argST cd 0)], []⟩
  objs _ _ := []
  spec cd _ := ifId 7300717 cd (.leaf (fun _ => []) (fun ws => ⟨.res (.ok (.ret (.int (Int.ofNat n) (ws.getD 0 0)))), [], []⟩))
theorem rLenN_ok (prog : Program) (w : World) (kt : Addr → Obj → Prop) {c n : Nat} (h : n ≤ 1000) : RuleD.Ok prog w kt (rLenN c n) := by
  intro cd es he
  have he : es = [] := he
  subst he
  have z := rLenS_ok prog w kt (.builtin (idOf cd) ⟨[.str (wd c n) (argST cd 0)], []⟩) [] rfl
  refine z.mono fun V hw => ?_
  unfold rLenN ifId at hw
  unfold rLenS ifId
  dsimp only at hw ⊢
  show wpS V (match S.eqLit 7300717 (idOf cd) with | true => _ | false => _)
  split at hw
  · rename_i hid
    try rw [hid]
    refine ⟨?_, ?_⟩
    · show (wd c n).length ≤ 1000
      rw [wd_length]; exact h
    · show wpS V (.leaf _ fun ws => ⟨.res (.ok (.ret (.int (Int.ofNat (wd c n).length) (ws.getD 0 0)))), [], []⟩)
      rw [wd_length]
      exact hw
  · cases hw
/-- a comparison whose answer is known -/
noncomputable def rLtN (a b : Nat) (r : Bool) : RuleD where
  D := 950
  U := 9000
  code cd _ := .builtin (idOf cd) ⟨[.int (Int.ofNat a) (argT cd 0), .int (Int.ofNat b) (argT cd 1)], []⟩
  objs _ _ := []
  spec cd _ := ifId 455126531311803185852266 cd (.leaf (fun _ => []) (fun _ => ⟨.res (.ok (.ret (.bool r))), [], []⟩))
theorem rLtN_ok (prog : Program) (w : World) (kt : Addr → Obj → Prop) {a b : Nat} {r : Bool} (h : decide (a < b) = r) : RuleD.Ok prog w kt (rLtN a b r) := by
  intro cd es he
  have he : es = [] := he
  subst he
  have z := rLt_ok prog w kt (.builtin (idOf cd) ⟨[.int (Int.ofNat a) (argT cd 0), .int (Int.ofNat b) (argT cd 1)], []⟩) [] rfl
  refine z.mono fun V hw => ?_
  unfold rLtN ifId at hw
  unfold rLt ifId
  dsimp only at hw ⊢
  show wpS V (match S.eqLit 455126531311803185852266 (idOf cd) with | true => _ | false => _)
  split at hw
  · rename_i hid
    try rw [hid]
    have hh : decide (Int.ofNat a < Int.ofNat b) = r := by
      rw [← h]
      apply decide_eq_decide.mpr
      rw [show Int.ofNat a = (a : Int) from rfl, show Int.ofNat b = (b : Int) from rfl]
      omega
    refine ⟨fun q => ?_, fun q => ?_⟩
    · have q : decide (Int.ofNat a < Int.ofNat b) = true := q
      rw [hh] at q; subst q; exact hw
    · have q : decide (Int.ofNat a < Int.ofNat b) = false := q
      rw [hh] at q; subst q; exact hw
  · cases hw
end Mine

namespace Mine
open PySem PySem.Spec PySem.Calls PyProof.Rows PySem.W PySem.W.X

/-- the text R begins with a word of the length n, and R' is what follows -/
noncomputable def WordAt (c n : Nat) (R R' : List Value) (d : Nat) : Prop := ∃ (ld : Option Tok) (t0 : Tok) (ts : List (Tok × Tok)) (t : Tok),
  R = leadV ld ++ .str (chS 34) t0 :: (encV c ts ++ .str (chS 34) t :: R') ∧ ts.length = n ∧ 2 * n + R'.length < 800 ∧ d = (leadV ld).length + 1 + (encV c ts).length + 1
noncomputable def rGTr (P : Params) (x : LX) (c n : Nat) (R R' : List Value) (d : Nat) : RuleD where
  D := 340
  U := 3900
  code _ _ := cGT x
  objs _ es := lexPre P x R (epOf (obK es 7)) ++ [(x.apb, oList [] (epOf (obK es 8)))]
  spec _ es := .leaf witRet (fun ws => ⟨.res (.ok (.ret (.str (wd c n) (ws.getD 0 0)))), lexOs P x R' (epOf (obK es 7) + d) ++ [oList [] (epOf (obK es 8))], []⟩)
theorem rGTr_ok (w : World) (x : LX) {c n : Nat} (hc : okCh c = true) {R R' : List Value} {d : Nat} (h : WordAt c n R R' d) : RuleD.Ok pw0 w (ko w.params) (rGTr w.params x c n R R' d) := by
  intro cd es he
  refine cast_spec he ?_
  obtain ⟨ld, t0, ts, t, rfl, rfl, hb, rfl⟩ := h
  refine (gt_spec w x ld hc t0 ts t R' (epOf (obK es 7)) (epOf (obK es 8)) hb).mono fun V h => ?_
  intro ws hp tk E
  have z := h ws hp tk
  rw [show epOf (obK es 7) + (leadV ld).length + 1 + (encV c ts).length + 1 = epOf (obK es 7) + ((leadV ld).length + 1 + (encV c ts).length + 1) from by omega] at *
  exact z E
noncomputable def rAHn (k c n : Nat) : RuleD where
  D := 342
  U := 3950
  code cd es := cAH (hxOf es) k (sTok (argV cd 1)) (wd c n, sTok (argV cd 2))
  objs _ es := tabPre (hxOf es) (itemsOf (obK es 2)) (epOf (obK es 2))
  spec cd es := match Nat.ble (itemsOf (obK es 2)).length 1000 with
    | true => .leaf witNews (fun ws => ⟨.res (.ok (.ret .none)), tabOs (hxOf es) (itemsOf (obK es 2) ++ [.ref (ws.getD 0 0)]) (epOf (obK es 2) + 1), [(ws.getD 0 0, oTup [.str (nmL k) (sTok (argV cd 1)), wv (wd c n, sTok (argV cd 2))])]⟩)
    | false => .stop 410
theorem rAHn_ok (w : World) {k c n : Nat} (hk : k ≤ 5) (hc : okCh c = true) (h1 : 1 ≤ n) (h6 : n ≤ 6) : RuleD.Ok pw0 w (ko w.params) (rAHn k c n) := by
  intro cd es he
  refine cast_spec he ?_
  refine (ah_spec w (hxOf es) (itemsOf (obK es 2)) (epOf (obK es 2)) hk (sTok (argV cd 1)) (wd c n, sTok (argV cd 2))).mono fun V h => ?_
  unfold rAHn at h
  dsimp only at h
  split at h
  · rename_i q
    exact ⟨⟨c, n, hc, h1, h6, rfl⟩, Nat.le_of_ble_eq_true q, h⟩
  · cases h
noncomputable def rPTg (x : LX) : RuleD where
  D := 342
  U := 3950
  code cd _ := cPT x (wvOf (argV cd 1))
  objs _ es := [(x.al, oInst x.ald), (x.ald, oLexD x 1), (x.apb, oList (itemsOf (obK es 2)) (epOf (obK es 2)))]
  spec cd es := match Nat.ble (itemsOf (obK es 2)).length 1000 with
    | true => .leaf (fun _ => []) (fun _ => ⟨.res (.ok (.ret .none)), [oInst x.ald, oLexD x 1, oList (itemsOf (obK es 2) ++ [wv (wvOf (argV cd 1))]) (epOf (obK es 2) + 1)], []⟩)
    | false => .stop 411
theorem rPTg_ok (w : World) (x : LX) : RuleD.Ok pw0 w (ko w.params) (rPTg x) := by
  intro cd es he
  refine cast_spec he ?_
  refine (pt_spec w x (wvOf (argV cd 1)) (itemsOf (obK es 2)) (epOf (obK es 2))).mono fun V h => ?_
  unfold rPTg at h
  dsimp only at h
  split at h
  · rename_i q
    exact ⟨Nat.le_of_ble_eq_true q, h⟩
  · cases h
noncomputable def rGPg (x : LX) : RuleD where
  D := 340
  U := 3900
  code _ _ := cGT x
  objs _ es := [(x.al, oInst x.ald), (x.ald, oLexD x 1), (x.apb, oList (itemsOf (obK es 2)) (epOf (obK es 2)))]
  spec _ es := match itemsOf (obK es 2) with
    | v :: q => match v with
      | .str s t => match Nat.ble (itemsOf (obK es 2)).length 1000 with
        | true => .leaf (fun _ => []) (fun _ => ⟨.res (.ok (.ret (.str s t))), [oInst x.ald, oLexD x 1, oList q (epOf (obK es 2) + 1)], []⟩)
        | false => .stop 412
      | _ => .stop 413
    | [] => .stop 414
theorem rGPg_ok (w : World) (x : LX) : RuleD.Ok pw0 w (ko w.params) (rGPg x) := by
  intro cd es he
  refine cast_spec he ?_
  unfold rGPg
  dsimp only
  split
  · rename_i v q e
    split
    · rename_i s t
      split
      · rename_i hq
        rw [e] at hq ⊢
        refine (rulesA_gp w x (s, t) q (epOf (obK es 2))).mono fun V h => ?_
        exact ⟨Nat.le_of_ble_eq_true hq, Nat.le_of_ble_eq_true hq, h⟩
      · intro A R s _ _ _ _ hw; cases hw
    · intro A R s _ _ _ _ hw; cases hw
  · intro A R s _ _ _ _ hw; cases hw
theorem nm_ok : ∀ j < 6, lowOk (nmL j) := by
  unfold lowOk
  decide +kernel
theorem nm_eq : ∀ j < 6, ∀ k < 6, eqS (low (nmL j)) (nml k) = Nat.beq j k := by decide +kernel
/-- the headers of the places js, as they stand from the third entry on -/
noncomputable def hsOf (es : List (Addr × Obj)) : Nat → List Nat → List HR
  | _, [] => []
  | i, j :: js => ⟨adK es (3 + i), nmL j, sTok ((itemsOf (obK es (3 + i))).getD 0 .none), wvOf ((itemsOf (obK es (3 + i))).getD 1 .none)⟩ :: hsOf es (i + 1) js
theorem hsOf_n (es : List (Addr × Obj)) : ∀ (i : Nat) (js : List Nat), (hsOf es i js).map (·.n) = js.map nmL
  | _, [] => rfl
  | i, j :: js => by simp [hsOf, hsOf_n es (i + 1) js]
noncomputable def getF (k : Nat) (os : List Obj) : List Nat → List HR → Spec
  | j :: js, h :: hs => match Nat.beq j k with
    | true => .leaf (fun _ => []) (fun _ => ⟨.res (.ok (.ret (wv h.v))), os, []⟩)
    | false => getF k os js hs
  | _, _ => .leaf (fun _ => []) (fun _ => ⟨.res (.ok (.ret .none)), os, []⟩)
theorem getT_of {V : BV} {k : Nat} {os : List Obj} (hk : k < 6) : ∀ (js : List Nat) (hs : List HR), hs.map (·.n) = js.map nmL → (∀ j ∈ js, j < 6) → wpS V (getF k os js hs) → wpS V (getT k os hs)
  | [], [], _, _, h => h
  | [], _ :: _, e, _, _ => by simp at e
  | _ :: _, [], e, _, _ => by simp at e
  | j :: js, h :: hs, e, hj, hw => by
    simp only [List.map_cons, List.cons.injEq] at e
    obtain ⟨e1, e2⟩ := e
    have h6 := hj j List.mem_cons_self
    unfold getT
    unfold getF at hw
    refine ⟨by rw [e1]; exact nm_ok j h6, fun q => ?_, fun q => ?_⟩
    · rw [e1, nm_eq j h6 k hk] at q
      rw [q] at hw
      exact hw
    · rw [e1, nm_eq j h6 k hk] at q
      rw [q] at hw
      exact getT_of hk js hs e2 (fun j hm => hj j (List.mem_cons_of_mem _ hm)) hw
noncomputable def rGetG (k : Nat) (js : List Nat) : RuleD where
  D := 342
  U := 3950
  code cd es := cGet (hxOf es) k (sTok (argV cd 1))
  objs _ es := tabPre (hxOf es) (hRefs (hsOf es 0 js)) (epOf (obK es 2)) ++ hEnts (hsOf es 0 js)
  spec _ es := getF k (tabOs (hxOf es) (hRefs (hsOf es 0 js)) (epOf (obK es 2)) ++ hObjs (hsOf es 0 js)) js (hsOf es 0 js)
theorem rGetG_ok (w : World) {k : Nat} (hk : k < 6) {js : List Nat} (h1 : js ≠ []) (h2 : js.length ≤ 6) (h3 : ∀ j ∈ js, j < 6) : RuleD.Ok pw0 w (ko w.params) (rGetG k js) := by
  intro cd es he
  refine cast_spec he ?_
  have hl : (hsOf es 0 js).length = js.length := by
    have := congrArg List.length (hsOf_n es 0 js)
    rwa [List.length_map, List.length_map] at this
  refine (get_raw w (hxOf es) (epOf (obK es 2)) (by omega) (sTok (argV cd 1)) (hsOf es 0 js) (fun q => h1 ?_) (by omega)).mono fun V h => getT_of hk js _ (hsOf_n es 0 js) h3 h
  rw [q] at hl
  exact List.eq_nil_of_length_eq_zero hl.symm
end Mine

namespace Mine
open PySem PySem.Spec PySem.Calls PyProof.Rows PySem.W PySem.W.X

/-- what happens in one order: the lengths, the rows of the others while they grow and while they shrink, the places told, the words taken -/
structure PD where
  n : Nat → Nat
  O : Nat → Nat → Nat
  Z : Nat → Nat → Nat
  J : Nat → Nat
  M : Nat → Nat
  R : Nat → List Value
  d : Nat → Nat
noncomputable def rowF (f : Nat → Nat) : Nat → Nat → List Nat
  | _, 0 => []
  | i, k + 1 => f i :: rowF f (i + 1) k
noncomputable def isL (js : List Nat) (k : Nat) : Bool := match js with
  | [] => false
  | j :: r => match Nat.beq j k with
    | true => true
    | false => isL r k
/-- how many places ahead of k are no least ones -/
noncomputable def cntL (js : List Nat) : Nat → Nat
  | 0 => 0
  | k + 1 => match isL js k with
    | true => cntL js k
    | false => cntL js k + 1
noncomputable def lstL (p : PD) (js : List Nat) : Nat → Nat
  | 0 => 7
  | k + 1 => match isL js k with
    | true => p.n k
    | false => lstL p js k
noncomputable def grow (p : PD) (s : Nat) : List Nat := rowF (p.O s) 0 s
noncomputable def shr (p : PD) (r : Nat) (s : Nat) : List Nat := match s with
  | 0 => grow p r
  | s + 1 => rowF (p.Z (s + 1)) 0 (r - (s + 1))
noncomputable def pushed (p : PD) (r s : Nat) : Nat := p.O r (r - 1 - s)
noncomputable def fam (f : Nat → RuleD) : List RuleD := [f 0, f 1, f 2, f 3, f 4, f 5]
noncomputable def rulesP (P : Params) (x : LX) (c : Nat) (p : PD) (js : List Nat) : List RuleD :=
  fam (fun k => rGTr P x c (p.n k) (p.R k) (p.R (k + 1)) (p.d k)) ++
  fam (fun k => rLtN (p.n k) (lstL p js k) (isL js k)) ++
  fam (fun k => rLenN c (p.n k)) ++
  fam (fun k => rAHn k c (p.n k)) ++
  fam (fun k => match isL js k with | true => rPTg x | false => rISn c (p.n k) (grow p (cntL js k)) (grow p (cntL js k + 1))) ++
  fam (fun k => rGetG k js) ++
  fam (fun k => match isL js k with | true => rPTg x | false => rBIn c (lstL p js k) (shr p (cntL js 6) (cntL js k)) (p.J (cntL js k))) ++
  fam (fun k => match isL js k with | true => rPTg x | false => rPopN c (shr p (cntL js 6) (cntL js k)) (p.J (cntL js k)) (p.M (cntL js k)) (shr p (cntL js 6) (cntL js k + 1))) ++
  fam (fun k => match isL js k with | true => rPTg x | false => rLenN c (pushed p (cntL js 6) (cntL js k))) ++
  fam (fun k => match isL js k with | true => rPTg x | false => rLenN c (p.M (cntL js k))) ++
  [rPTg x, rGPg x]
noncomputable abbrev cPA (x : LX) : Code := .call (.ref 282) ⟨[.ref x.al], []⟩
noncomputable def mkI (f : Nat → Tok) : Nat → List Nat → List Value
  | _, [] => []
  | i, n :: l => .int (Int.ofNat n) (f i) :: mkI f (i + 1) l
noncomputable def mapN (f : Nat → Nat) : Nat → Nat → List Nat := fun i k => rowF f i k
noncomputable def firstN (p : PD) (js : List Nat) (k : Nat) : Nat := match isL js k with | true => p.n k | false => pushed p (cntL js 6) (cntL js k)
noncomputable def secondN (p : PD) (js : List Nat) (k : Nat) : Nat := match isL js k with | true => p.n k | false => p.M (cntL js k)
noncomputable def iTok (v : Value) : Tok := match v with
  | .int _ t => t
  | _ => 0
noncomputable def witP (L : Leaf) : List Nat := adK L.ns 0 :: adK L.ns 1 :: adK L.ns 2 :: ((itemsOf (obK L.ns 1)).map iTok ++ (itemsOf (obK L.ns 2)).map iTok)
noncomputable def paSpec (P : Params) (x : LX) (p : PD) (js : List Nat) (e m : Nat) : Spec :=
  .leaf witP (fun ws => ⟨.res (.ok (.ret (.ref (ws.getD 0 0)))), lexOs P x (p.R 6) (e + p.d 0 + p.d 1 + p.d 2 + p.d 3 + p.d 4 + p.d 5) ++ [oList [] (m + 2 * cntL js 6)],
    [(ws.getD 0 0, oTup [.ref (ws.getD 1 0), .ref (ws.getD 2 0)]), (ws.getD 1 0, oList (mkI (fun i => ws.getD (i + 3) 0) 0 (rowF (firstN p js) 0 6)) 6), (ws.getD 2 0, oList (mkI (fun i => ws.getD (i + 9) 0) 0 (rowF (secondN p js) 0 6)) 6)]⟩)
noncomputable abbrev ckPA (P : Params) (b1 b2 : Bool) (x : LX) (c : Nat) (p : PD) (js : List Nat) (e m N tk : Nat) (tg : Tg) : Chk :=
  chkOf P b1 b2 (rulesP P x c p js) (cPA x) 330 3800 (lexPre P x (p.R 0) e ++ [(x.apb, oList [] m)]) N tk tg (paSpec P x p js e m)
noncomputable def tgP0 : Tg := (gl g0 [1, 0, 0, 10, 10, 0, 0, 0, 0, 0, 0, 0, 0, 0, 0, 0, 0, 0, 0, 0, 0, 0, 0, 0, 0, 0, 0, 0, 0, 0, 0, 0, 0, 0, 12, 0, 12, 0, 0, 0, 0, 1, 0, 0, 0, 13, 13, 13, 13, 13, 13, 13, 0, 0, 13, 0, 0, 14, 0, 0, 13, 13, 12, 0, 0, 0, 0, 12, 0, 0, 12, 0, 12, 0, 0, 0, 12, 0, 11, 11, 11, 13, 14, 14, 0, 14, 0, 15, 0, 15, 0, 15, 0, 15, 15, 14, 15, 15, 17, 0, 10, 10, 10, 10, 0, 0, 0, 0, 10, 10, 0, 0, 0, 0, 0, 0, 19, 19, 0, 19, 0, 19, 19, 19, 0, 19, 0, 19, 19, 19, 20, 0, 20, 0, 20, 0, 20, 20, 20, 20, 20, 20, 20, 10, 10, 10, 1, 0, 0, 0, 1, 0, 0, 0, 1, 0, 0, 0, 0, 1, 2, 0, 3, 9, 0, 1, 2, 3, 4, 5, 6, 7, 8, 10, 10, 0, 0, 10, 0, 15, 0, 0, 0, 10, 0, 0, 0, 0, 0, 9, 0, 10, 12, 0, 0, 0, 12, 0, 0, 0, 12, 0, 0, 0, 0, 12, 11, 0, 0, 10, 0, 0, 0, 0, 0, 0, 0, 0, 0, 0, 0, 0, 10, 0, 21, 3, 11, 10, 13, 10, 10, 10, 0, 20, 0, 20, 0, 20, 20, 20, 20, 20, 20, 20, 10, 10, 10, 1, 0, 0, 0, 1, 0, 0, 0, 1, 0, 0, 0, 0, 1, 2, 0, 4, 9, 0, 1, 2, 3, 4, 5, 6, 7, 8, 10, 10, 0, 0, 10, 0, 16, 0, 0, 0, 10, 0, 15, 0, 0, 10, 0, 0, 10, 10, 0, 0, 0, 28, 1, 17, 0, 20, 0, 20, 0, 20, 20, 20, 20, 20, 20, 20, 10, 10, 10, 1, 0, 0, 0, 1, 0, 0, 0, 1, 0, 0, 0, 0, 1, 2, 0, 5, 9, 0, 1, 2, 3, 4, 5, 6, 7, 8, 10, 10, 0, 0, 10, 0, 17, 0, 0, 0, 10, 0, 15, 0, 0, 11, 0, 0, 10, 10, 0, 0, 0, 29, 1, 17, 0, 20, 0, 20, 0, 20, 20, 20, 20, 20, 20, 20, 10, 10, 10, 1, 0, 0, 0, 1, 0, 0, 0, 1, 0, 0, 0, 0, 1, 2, 0, 6, 9, 0, 1, 2, 3, 4, 5, 6, 7, 8, 10, 10, 0, 0, 10, 0, 18, 0, 0, 0, 10, 0, 15, 0, 0, 12, 0, 0, 10, 10, 0, 0, 0, 30, 1, 17, 0, 20, 0, 20, 0, 20, 20, 20, 20, 20, 20, 20, 10, 10, 10, 1, 0, 0, 0, 1, 0, 0, 0, 1, 0, 0, 0, 0, 1, 2, 0, 7, 9, 0, 1, 2, 3, 4, 5, 6, 7, 8, 10, 10, 0, 0, 10, 0, 19, 0, 0, 0, 10, 0, 15, 0, 0, 13, 0, 0, 10, 10, 0, 0, 0, 31, 1, 17, 0, 20, 0, 20, 0, 20, 20, 20, 20, 20, 20, 20, 10, 10, 10, 1, 0, 0, 0, 1, 0, 0, 0, 1, 0, 0, 0, 0, 1, 2, 0, 8, 9, 0, 1, 2, 3, 4, 5, 6, 7, 8, 10, 10, 0, 0, 10, 0, 20, 0, 0, 0, 10, 0, 15, 0, 0, 14, 0, 0, 10, 10, 0, 0, 0, 32, 1, 17, 0, 20, 0, 20, 0, 20, 20, 20, 23, 0, 10, 0, 0, 18, 18, 18, 0, 18, 0, 24, 24, 24, 24, 24, 18, 25, 25, 0, 25, 0, 26, 0, 26, 0, 26, 0, 26, 26, 25, 26, 26, 10, 10, 10, 1, 0, 0, 0, 1, 0, 0, 0, 1, 0, 0, 0, 0, 1, 2, 10, 0, 63, 3, 0, 1, 8, 0, 26, 0, 26, 0, 26, 26, 25, 26, 26, 10, 10, 10, 1, 0, 0, 0, 1, 0, 0, 0, 1, 0, 0, 0, 0, 1, 2, 10, 0, 63, 3, 0, 1, 8, 0, 26, 0, 26, 0, 26, 26, 25, 26, 26, 10, 10, 10, 1, 0, 0, 0, 1, 0, 0, 0, 1, 0, 0, 0, 0, 1, 2, 10, 0, 63, 3, 0, 1, 8, 0, 26, 0, 26, 0, 26, 26, 25, 26, 26, 10, 10, 10, 1, 0, 0, 0, 1, 0, 0, 0, 1, 0, 0, 0, 0, 1, 2, 10, 0, 63, 3, 0, 1, 8, 0, 26, 0, 26, 0, 26, 26, 25, 26, 26, 10, 10, 10, 1, 0, 0, 0, 1, 0, 0, 0, 1, 0, 0, 0, 0, 1, 2, 10, 0, 63, 3, 0, 1, 8, 0, 26, 0, 26, 0, 26, 26, 25, 26, 26, 28, 0, 10, 10, 10, 10, 10, 10, 0, 0, 0, 0, 0, 0, 31, 31, 0, 31, 0, 31, 31, 31, 0, 31, 0, 31, 31, 31, 32, 0, 32, 0, 32, 0, 32, 32, 32, 32, 32, 32, 32, 10, 10, 10, 12, 0, 0, 0, 12, 0, 0, 0, 12, 0, 0, 0, 0, 12, 11, 0, 0, 10, 0, 0, 0, 0, 0, 0, 0, 0, 0, 0, 0, 0, 0, 33, 4, 11, 10, 13, 20, 10, 10, 10, 10, 29, 29, 29, 29, 0, 0, 10, 0, 15, 0, 0, 29, 0, 29, 29, 29, 10, 30, 30, 30, 30, 0, 0, 10, 0, 15, 0, 0, 30, 0, 30, 30, 30, 10, 10, 10, 0, 32, 0, 32, 0, 32, 32, 32, 32, 32, 32, 32, 10, 10, 10, 12, 0, 0, 0, 12, 0, 0, 0, 12, 0, 0, 0, 0, 12, 11, 0, 0, 10, 0, 0, 0, 0, 0, 0, 0, 0, 0, 0, 0, 0, 0, 34, 4, 11, 10, 13, 20, 10, 10, 10, 10, 29, 29, 29, 29, 0, 0, 10, 1, 0, 0, 0, 1, 0, 0, 0, 1, 0, 0, 0, 0, 1, 2, 0, 64, 3, 0, 1, 8, 0, 52, 0, 0, 29, 0, 29, 29, 29, 10, 30, 30, 30, 30, 0, 0, 10, 18, 18, 18, 18, 0, 10, 0, 0, 10, 0, 15, 0, 0, 0, 0, 40, 1, 17, 0, 18, 46, 1, 17, 0, 58, 0, 0, 30, 0, 30, 30, 30, 0, 32, 0, 32, 0, 32, 32, 32, 32, 32, 32, 32, 10, 10, 10, 12, 0, 0, 0, 12, 0, 0, 0, 12, 0, 0, 0, 0, 12, 11, 0, 0, 10, 0, 0, 0, 0, 0, 0, 0, 0, 0, 0, 0, 0, 0, 35, 4, 11, 10, 13, 20, 10, 10, 10, 10, 29, 29, 29, 29, 0, 0, 10, 1, 0, 0, 0, 1, 0, 0, 0, 1, 0, 0, 0, 0, 1, 2, 0, 64, 3, 0, 1, 8, 0, 53, 0, 0, 29, 0, 29, 29, 29, 10, 30, 30, 30, 30, 0, 0, 10, 18, 18, 18, 18, 0, 10, 0, 0, 10, 0, 15, 0, 0, 0, 0, 41, 1, 17, 0, 18, 47, 1, 17, 0, 59, 0, 0, 30, 0, 30, 30, 30, 0, 32, 0, 32, 0, 32, 32, 32, 32, 32, 32, 32, 10, 10, 10, 12, 0, 0, 0, 12, 0, 0, 0, 12, 0, 0, 0, 0, 12, 11, 0, 0, 10, 0, 0, 0, 0, 0, 0, 0, 0, 0, 0, 0, 0, 0, 36, 4, 11, 10, 13, 20, 10, 10, 10, 10, 29, 29, 29, 29, 0, 0, 10, 1, 0, 0, 0, 1, 0, 0, 0, 1, 0, 0, 0, 0, 1, 2, 0, 64, 3, 0, 1, 8, 0, 54, 0, 0, 29, 0, 29, 29, 29, 10, 30, 30, 30, 30, 0, 0, 10, 18, 18, 18, 18, 0, 10, 0, 0, 10, 0, 15, 0, 0, 0, 0, 42, 1, 17, 0, 18, 48, 1, 17, 0, 60, 0, 0, 30, 0, 30, 30, 30, 0, 32, 0, 32, 0, 32, 32, 32, 32, 32, 32, 32, 10, 10, 10, 12, 0, 0, 0, 12, 0, 0, 0, 12, 0, 0, 0, 0, 12, 11, 0, 0, 10, 0, 0, 0, 0, 0, 0, 0, 0, 0, 0, 0, 0, 0, 37, 4, 11, 10, 13, 20, 10, 10, 10, 10, 29, 29, 29, 29, 0, 0, 10, 1, 0, 0, 0, 1, 0, 0, 0, 1, 0, 0, 0, 0, 1, 2, 0, 64, 3, 0, 1, 8, 0, 55, 0, 0, 29, 0, 29, 29, 29, 10, 30, 30, 30, 30, 0, 0, 10, 18, 18, 18, 18, 0, 10, 0, 0, 10, 0, 15, 0, 0, 0, 0, 43, 1, 17, 0, 18, 49, 1, 17, 0, 61, 0, 0, 30, 0, 30, 30, 30, 0, 32, 0, 32, 0, 32, 32, 32, 32, 32, 32, 32, 10, 10, 10, 12, 0, 0, 0, 12, 0, 0, 0, 12, 0, 0, 0, 0, 12, 11, 0, 0, 10, 0, 0, 0, 0, 0, 0, 0, 0, 0, 0, 0, 0, 0, 38, 4, 11, 10, 13, 20, 10, 10, 10, 10, 29, 29, 29, 29, 0, 0, 10, 1, 0, 0, 0, 1, 0, 0, 0, 1, 0, 0, 0, 0, 1, 2, 0, 64, 3, 0, 1, 8, 0, 56, 0, 0, 29, 0, 29, 29, 29, 10, 30, 30, 30, 30, 0, 0, 10, 18, 18, 18, 18, 0, 10, 0, 0, 10, 0, 15, 0, 0, 0, 0, 44, 1, 17, 0, 18, 50, 1, 17, 0, 62, 0, 0, 30, 0, 30, 30, 30, 0, 32, 0, 32, 0, 32, 32, 32, 34, 0, 10, 10, 34, 28, 29])
noncomputable def tgP01 : Tg := (gl g0 [1, 0, 0, 10, 10, 0, 0, 0, 0, 0, 0, 0, 0, 0, 0, 0, 0, 0, 0, 0, 0, 0, 0, 0, 0, 0, 0, 0, 0, 0, 0, 0, 0, 0, 12, 0, 12, 0, 0, 0, 0, 1, 0, 0, 0, 13, 13, 13, 13, 13, 13, 13, 0, 0, 13, 0, 0, 14, 0, 0, 13, 13, 12, 0, 0, 0, 0, 12, 0, 0, 12, 0, 12, 0, 0, 0, 12, 0, 11, 11, 11, 13, 14, 14, 0, 14, 0, 15, 0, 15, 0, 15, 0, 15, 15, 14, 15, 15, 17, 0, 10, 10, 10, 10, 0, 0, 0, 0, 10, 10, 0, 0, 0, 0, 0, 0, 19, 19, 0, 19, 0, 19, 19, 19, 0, 19, 0, 19, 19, 19, 20, 0, 20, 0, 20, 0, 20, 20, 20, 20, 20, 20, 20, 10, 10, 10, 1, 0, 0, 0, 1, 0, 0, 0, 1, 0, 0, 0, 0, 1, 2, 0, 3, 9, 0, 1, 2, 3, 4, 5, 6, 7, 8, 10, 10, 0, 0, 10, 0, 15, 0, 0, 0, 10, 0, 0, 0, 0, 0, 9, 0, 10, 12, 0, 0, 0, 12, 0, 0, 0, 12, 0, 0, 0, 0, 12, 11, 0, 0, 10, 0, 0, 0, 0, 0, 0, 0, 0, 0, 0, 0, 0, 10, 0, 21, 3, 11, 10, 13, 10, 10, 10, 0, 20, 0, 20, 0, 20, 20, 20, 20, 20, 20, 20, 10, 10, 10, 1, 0, 0, 0, 1, 0, 0, 0, 1, 0, 0, 0, 0, 1, 2, 0, 4, 9, 0, 1, 2, 3, 4, 5, 6, 7, 8, 10, 10, 0, 0, 10, 0, 16, 0, 0, 0, 10, 0, 15, 0, 0, 10, 0, 10, 12, 0, 0, 0, 12, 0, 0, 0, 12, 0, 0, 0, 0, 12, 11, 0, 0, 10, 0, 0, 0, 0, 0, 0, 0, 0, 0, 0, 0, 0, 10, 0, 22, 3, 11, 10, 13, 10, 10, 10, 0, 20, 0, 20, 0, 20, 20, 20, 20, 20, 20, 20, 10, 10, 10, 1, 0, 0, 0, 1, 0, 0, 0, 1, 0, 0, 0, 0, 1, 2, 0, 5, 9, 0, 1, 2, 3, 4, 5, 6, 7, 8, 10, 10, 0, 0, 10, 0, 17, 0, 0, 0, 10, 0, 16, 0, 0, 11, 0, 0, 10, 10, 0, 0, 0, 29, 1, 17, 0, 20, 0, 20, 0, 20, 20, 20, 20, 20, 20, 20, 10, 10, 10, 1, 0, 0, 0, 1, 0, 0, 0, 1, 0, 0, 0, 0, 1, 2, 0, 6, 9, 0, 1, 2, 3, 4, 5, 6, 7, 8, 10, 10, 0, 0, 10, 0, 18, 0, 0, 0, 10, 0, 16, 0, 0, 12, 0, 0, 10, 10, 0, 0, 0, 30, 1, 17, 0, 20, 0, 20, 0, 20, 20, 20, 20, 20, 20, 20, 10, 10, 10, 1, 0, 0, 0, 1, 0, 0, 0, 1, 0, 0, 0, 0, 1, 2, 0, 7, 9, 0, 1, 2, 3, 4, 5, 6, 7, 8, 10, 10, 0, 0, 10, 0, 19, 0, 0, 0, 10, 0, 16, 0, 0, 13, 0, 0, 10, 10, 0, 0, 0, 31, 1, 17, 0, 20, 0, 20, 0, 20, 20, 20, 20, 20, 20, 20, 10, 10, 10, 1, 0, 0, 0, 1, 0, 0, 0, 1, 0, 0, 0, 0, 1, 2, 0, 8, 9, 0, 1, 2, 3, 4, 5, 6, 7, 8, 10, 10, 0, 0, 10, 0, 20, 0, 0, 0, 10, 0, 16, 0, 0, 14, 0, 0, 10, 10, 0, 0, 0, 32, 1, 17, 0, 20, 0, 20, 0, 20, 20, 20, 24, 0, 10, 0, 0, 18, 18, 18, 0, 18, 0, 25, 25, 25, 25, 25, 18, 26, 26, 0, 26, 0, 27, 0, 27, 0, 27, 0, 27, 27, 26, 27, 27, 10, 10, 10, 1, 0, 0, 0, 1, 0, 0, 0, 1, 0, 0, 0, 0, 1, 2, 10, 0, 63, 3, 0, 1, 8, 0, 27, 0, 27, 0, 27, 27, 26, 27, 27, 10, 10, 10, 1, 0, 0, 0, 1, 0, 0, 0, 1, 0, 0, 0, 0, 1, 2, 10, 0, 63, 3, 0, 1, 8, 0, 27, 0, 27, 0, 27, 27, 26, 27, 27, 10, 10, 10, 1, 0, 0, 0, 1, 0, 0, 0, 1, 0, 0, 0, 0, 1, 2, 10, 0, 63, 3, 0, 1, 8, 0, 27, 0, 27, 0, 27, 27, 26, 27, 27, 10, 10, 10, 1, 0, 0, 0, 1, 0, 0, 0, 1, 0, 0, 0, 0, 1, 2, 10, 0, 63, 3, 0, 1, 8, 0, 27, 0, 27, 0, 27, 27, 26, 27, 27, 29, 0, 10, 10, 10, 10, 10, 10, 0, 0, 0, 0, 0, 0, 32, 32, 0, 32, 0, 32, 32, 32, 0, 32, 0, 32, 32, 32, 33, 0, 33, 0, 33, 0, 33, 33, 33, 33, 33, 33, 33, 10, 10, 10, 12, 0, 0, 0, 12, 0, 0, 0, 12, 0, 0, 0, 0, 12, 11, 0, 0, 10, 0, 0, 0, 0, 0, 0, 0, 0, 0, 0, 0, 0, 0, 33, 5, 11, 10, 13, 20, 21, 10, 10, 10, 10, 30, 30, 30, 30, 0, 0, 10, 0, 15, 0, 0, 30, 0, 30, 30, 30, 10, 31, 31, 31, 31, 0, 0, 10, 0, 15, 0, 0, 31, 0, 31, 31, 31, 10, 10, 10, 0, 33, 0, 33, 0, 33, 33, 33, 33, 33, 33, 33, 10, 10, 10, 12, 0, 0, 0, 12, 0, 0, 0, 12, 0, 0, 0, 0, 12, 11, 0, 0, 10, 0, 0, 0, 0, 0, 0, 0, 0, 0, 0, 0, 0, 0, 34, 5, 11, 10, 13, 20, 21, 10, 10, 10, 10, 30, 30, 30, 30, 0, 0, 10, 0, 16, 0, 0, 30, 0, 30, 30, 30, 10, 31, 31, 31, 31, 0, 0, 10, 0, 16, 0, 0, 31, 0, 31, 31, 31, 10, 10, 10, 0, 33, 0, 33, 0, 33, 33, 33, 33, 33, 33, 33, 10, 10, 10, 12, 0, 0, 0, 12, 0, 0, 0, 12, 0, 0, 0, 0, 12, 11, 0, 0, 10, 0, 0, 0, 0, 0, 0, 0, 0, 0, 0, 0, 0, 0, 35, 5, 11, 10, 13, 20, 21, 10, 10, 10, 10, 30, 30, 30, 30, 0, 0, 10, 1, 0, 0, 0, 1, 0, 0, 0, 1, 0, 0, 0, 0, 1, 2, 0, 64, 3, 0, 1, 8, 0, 53, 0, 0, 30, 0, 30, 30, 30, 10, 31, 31, 31, 31, 0, 0, 10, 18, 18, 18, 18, 0, 10, 0, 0, 10, 0, 16, 0, 0, 0, 0, 41, 1, 17, 0, 18, 47, 1, 17, 0, 59, 0, 0, 31, 0, 31, 31, 31, 0, 33, 0, 33, 0, 33, 33, 33, 33, 33, 33, 33, 10, 10, 10, 12, 0, 0, 0, 12, 0, 0, 0, 12, 0, 0, 0, 0, 12, 11, 0, 0, 10, 0, 0, 0, 0, 0, 0, 0, 0, 0, 0, 0, 0, 0, 36, 5, 11, 10, 13, 20, 21, 10, 10, 10, 10, 30, 30, 30, 30, 0, 0, 10, 1, 0, 0, 0, 1, 0, 0, 0, 1, 0, 0, 0, 0, 1, 2, 0, 64, 3, 0, 1, 8, 0, 54, 0, 0, 30, 0, 30, 30, 30, 10, 31, 31, 31, 31, 0, 0, 10, 18, 18, 18, 18, 0, 10, 0, 0, 10, 0, 16, 0, 0, 0, 0, 42, 1, 17, 0, 18, 48, 1, 17, 0, 60, 0, 0, 31, 0, 31, 31, 31, 0, 33, 0, 33, 0, 33, 33, 33, 33, 33, 33, 33, 10, 10, 10, 12, 0, 0, 0, 12, 0, 0, 0, 12, 0, 0, 0, 0, 12, 11, 0, 0, 10, 0, 0, 0, 0, 0, 0, 0, 0, 0, 0, 0, 0, 0, 37, 5, 11, 10, 13, 20, 21, 10, 10, 10, 10, 30, 30, 30, 30, 0, 0, 10, 1, 0, 0, 0, 1, 0, 0, 0, 1, 0, 0, 0, 0, 1, 2, 0, 64, 3, 0, 1, 8, 0, 55, 0, 0, 30, 0, 30, 30, 30, 10, 31, 31, 31, 31, 0, 0, 10, 18, 18, 18, 18, 0, 10, 0, 0, 10, 0, 16, 0, 0, 0, 0, 43, 1, 17, 0, 18, 49, 1, 17, 0, 61, 0, 0, 31, 0, 31, 31, 31, 0, 33, 0, 33, 0, 33, 33, 33, 33, 33, 33, 33, 10, 10, 10, 12, 0, 0, 0, 12, 0, 0, 0, 12, 0, 0, 0, 0, 12, 11, 0, 0, 10, 0, 0, 0, 0, 0, 0, 0, 0, 0, 0, 0, 0, 0, 38, 5, 11, 10, 13, 20, 21, 10, 10, 10, 10, 30, 30, 30, 30, 0, 0, 10, 1, 0, 0, 0, 1, 0, 0, 0, 1, 0, 0, 0, 0, 1, 2, 0, 64, 3, 0, 1, 8, 0, 56, 0, 0, 30, 0, 30, 30, 30, 10, 31, 31, 31, 31, 0, 0, 10, 18, 18, 18, 18, 0, 10, 0, 0, 10, 0, 16, 0, 0, 0, 0, 44, 1, 17, 0, 18, 50, 1, 17, 0, 62, 0, 0, 31, 0, 31, 31, 31, 0, 33, 0, 33, 0, 33, 33, 33, 35, 0, 10, 10, 35, 29, 30])
noncomputable def tgP02 : Tg := (gl g0 [1, 0, 0, 10, 10, 0, 0, 0, 0, 0, 0, 0, 0, 0, 0, 0, 0, 0, 0, 0, 0, 0, 0, 0, 0, 0, 0, 0, 0, 0, 0, 0, 0, 0, 12, 0, 12, 0, 0, 0, 0, 1, 0, 0, 0, 13, 13, 13, 13, 13, 13, 13, 0, 0, 13, 0, 0, 14, 0, 0, 13, 13, 12, 0, 0, 0, 0, 12, 0, 0, 12, 0, 12, 0, 0, 0, 12, 0, 11, 11, 11, 13, 14, 14, 0, 14, 0, 15, 0, 15, 0, 15, 0, 15, 15, 14, 15, 15, 17, 0, 10, 10, 10, 10, 0, 0, 0, 0, 10, 10, 0, 0, 0, 0, 0, 0, 19, 19, 0, 19, 0, 19, 19, 19, 0, 19, 0, 19, 19, 19, 20, 0, 20, 0, 20, 0, 20, 20, 20, 20, 20, 20, 20, 10, 10, 10, 1, 0, 0, 0, 1, 0, 0, 0, 1, 0, 0, 0, 0, 1, 2, 0, 3, 9, 0, 1, 2, 3, 4, 5, 6, 7, 8, 10, 10, 0, 0, 10, 0, 15, 0, 0, 0, 10, 0, 0, 0, 0, 0, 9, 0, 10, 12, 0, 0, 0, 12, 0, 0, 0, 12, 0, 0, 0, 0, 12, 11, 0, 0, 10, 0, 0, 0, 0, 0, 0, 0, 0, 0, 0, 0, 0, 10, 0, 21, 3, 11, 10, 13, 10, 10, 10, 0, 20, 0, 20, 0, 20, 20, 20, 20, 20, 20, 20, 10, 10, 10, 1, 0, 0, 0, 1, 0, 0, 0, 1, 0, 0, 0, 0, 1, 2, 0, 4, 9, 0, 1, 2, 3, 4, 5, 6, 7, 8, 10, 10, 0, 0, 10, 0, 16, 0, 0, 0, 10, 0, 15, 0, 0, 10, 0, 0, 10, 10, 0, 0, 0, 28, 1, 17, 0, 20, 0, 20, 0, 20, 20, 20, 20, 20, 20, 20, 10, 10, 10, 1, 0, 0, 0, 1, 0, 0, 0, 1, 0, 0, 0, 0, 1, 2, 0, 5, 9, 0, 1, 2, 3, 4, 5, 6, 7, 8, 10, 10, 0, 0, 10, 0, 17, 0, 0, 0, 10, 0, 15, 0, 0, 11, 0, 10, 12, 0, 0, 0, 12, 0, 0, 0, 12, 0, 0, 0, 0, 12, 11, 0, 0, 10, 0, 0, 0, 0, 0, 0, 0, 0, 0, 0, 0, 0, 10, 0, 23, 3, 11, 10, 13, 10, 10, 10, 0, 20, 0, 20, 0, 20, 20, 20, 20, 20, 20, 20, 10, 10, 10, 1, 0, 0, 0, 1, 0, 0, 0, 1, 0, 0, 0, 0, 1, 2, 0, 6, 9, 0, 1, 2, 3, 4, 5, 6, 7, 8, 10, 10, 0, 0, 10, 0, 18, 0, 0, 0, 10, 0, 17, 0, 0, 12, 0, 0, 10, 10, 0, 0, 0, 30, 1, 17, 0, 20, 0, 20, 0, 20, 20, 20, 20, 20, 20, 20, 10, 10, 10, 1, 0, 0, 0, 1, 0, 0, 0, 1, 0, 0, 0, 0, 1, 2, 0, 7, 9, 0, 1, 2, 3, 4, 5, 6, 7, 8, 10, 10, 0, 0, 10, 0, 19, 0, 0, 0, 10, 0, 17, 0, 0, 13, 0, 0, 10, 10, 0, 0, 0, 31, 1, 17, 0, 20, 0, 20, 0, 20, 20, 20, 20, 20, 20, 20, 10, 10, 10, 1, 0, 0, 0, 1, 0, 0, 0, 1, 0, 0, 0, 0, 1, 2, 0, 8, 9, 0, 1, 2, 3, 4, 5, 6, 7, 8, 10, 10, 0, 0, 10, 0, 20, 0, 0, 0, 10, 0, 17, 0, 0, 14, 0, 0, 10, 10, 0, 0, 0, 32, 1, 17, 0, 20, 0, 20, 0, 20, 20, 20, 24, 0, 10, 0, 0, 18, 18, 18, 0, 18, 0, 25, 25, 25, 25, 25, 18, 26, 26, 0, 26, 0, 27, 0, 27, 0, 27, 0, 27, 27, 26, 27, 27, 10, 10, 10, 1, 0, 0, 0, 1, 0, 0, 0, 1, 0, 0, 0, 0, 1, 2, 10, 0, 63, 3, 0, 1, 8, 0, 27, 0, 27, 0, 27, 27, 26, 27, 27, 10, 10, 10, 1, 0, 0, 0, 1, 0, 0, 0, 1, 0, 0, 0, 0, 1, 2, 10, 0, 63, 3, 0, 1, 8, 0, 27, 0, 27, 0, 27, 27, 26, 27, 27, 10, 10, 10, 1, 0, 0, 0, 1, 0, 0, 0, 1, 0, 0, 0, 0, 1, 2, 10, 0, 63, 3, 0, 1, 8, 0, 27, 0, 27, 0, 27, 27, 26, 27, 27, 10, 10, 10, 1, 0, 0, 0, 1, 0, 0, 0, 1, 0, 0, 0, 0, 1, 2, 10, 0, 63, 3, 0, 1, 8, 0, 27, 0, 27, 0, 27, 27, 26, 27, 27, 29, 0, 10, 10, 10, 10, 10, 10, 0, 0, 0, 0, 0, 0, 32, 32, 0, 32, 0, 32, 32, 32, 0, 32, 0, 32, 32, 32, 33, 0, 33, 0, 33, 0, 33, 33, 33, 33, 33, 33, 33, 10, 10, 10, 12, 0, 0, 0, 12, 0, 0, 0, 12, 0, 0, 0, 0, 12, 11, 0, 0, 10, 0, 0, 0, 0, 0, 0, 0, 0, 0, 0, 0, 0, 0, 33, 5, 11, 10, 13, 20, 21, 10, 10, 10, 10, 30, 30, 30, 30, 0, 0, 10, 0, 15, 0, 0, 30, 0, 30, 30, 30, 10, 31, 31, 31, 31, 0, 0, 10, 0, 15, 0, 0, 31, 0, 31, 31, 31, 10, 10, 10, 0, 33, 0, 33, 0, 33, 33, 33, 33, 33, 33, 33, 10, 10, 10, 12, 0, 0, 0, 12, 0, 0, 0, 12, 0, 0, 0, 0, 12, 11, 0, 0, 10, 0, 0, 0, 0, 0, 0, 0, 0, 0, 0, 0, 0, 0, 34, 5, 11, 10, 13, 20, 21, 10, 10, 10, 10, 30, 30, 30, 30, 0, 0, 10, 1, 0, 0, 0, 1, 0, 0, 0, 1, 0, 0, 0, 0, 1, 2, 0, 64, 3, 0, 1, 8, 0, 52, 0, 0, 30, 0, 30, 30, 30, 10, 31, 31, 31, 31, 0, 0, 10, 18, 18, 18, 18, 0, 10, 0, 0, 10, 0, 15, 0, 0, 0, 0, 40, 1, 17, 0, 18, 46, 1, 17, 0, 58, 0, 0, 31, 0, 31, 31, 31, 0, 33, 0, 33, 0, 33, 33, 33, 33, 33, 33, 33, 10, 10, 10, 12, 0, 0, 0, 12, 0, 0, 0, 12, 0, 0, 0, 0, 12, 11, 0, 0, 10, 0, 0, 0, 0, 0, 0, 0, 0, 0, 0, 0, 0, 0, 35, 5, 11, 10, 13, 20, 21, 10, 10, 10, 10, 30, 30, 30, 30, 0, 0, 10, 0, 17, 0, 0, 30, 0, 30, 30, 30, 10, 31, 31, 31, 31, 0, 0, 10, 0, 17, 0, 0, 31, 0, 31, 31, 31, 10, 10, 10, 0, 33, 0, 33, 0, 33, 33, 33, 33, 33, 33, 33, 10, 10, 10, 12, 0, 0, 0, 12, 0, 0, 0, 12, 0, 0, 0, 0, 12, 11, 0, 0, 10, 0, 0, 0, 0, 0, 0, 0, 0, 0, 0, 0, 0, 0, 36, 5, 11, 10, 13, 20, 21, 10, 10, 10, 10, 30, 30, 30, 30, 0, 0, 10, 1, 0, 0, 0, 1, 0, 0, 0, 1, 0, 0, 0, 0, 1, 2, 0, 64, 3, 0, 1, 8, 0, 54, 0, 0, 30, 0, 30, 30, 30, 10, 31, 31, 31, 31, 0, 0, 10, 18, 18, 18, 18, 0, 10, 0, 0, 10, 0, 17, 0, 0, 0, 0, 42, 1, 17, 0, 18, 48, 1, 17, 0, 60, 0, 0, 31, 0, 31, 31, 31, 0, 33, 0, 33, 0, 33, 33, 33, 33, 33, 33, 33, 10, 10, 10, 12, 0, 0, 0, 12, 0, 0, 0, 12, 0, 0, 0, 0, 12, 11, 0, 0, 10, 0, 0, 0, 0, 0, 0, 0, 0, 0, 0, 0, 0, 0, 37, 5, 11, 10, 13, 20, 21, 10, 10, 10, 10, 30, 30, 30, 30, 0, 0, 10, 1, 0, 0, 0, 1, 0, 0, 0, 1, 0, 0, 0, 0, 1, 2, 0, 64, 3, 0, 1, 8, 0, 55, 0, 0, 30, 0, 30, 30, 30, 10, 31, 31, 31, 31, 0, 0, 10, 18, 18, 18, 18, 0, 10, 0, 0, 10, 0, 17, 0, 0, 0, 0, 43, 1, 17, 0, 18, 49, 1, 17, 0, 61, 0, 0, 31, 0, 31, 31, 31, 0, 33, 0, 33, 0, 33, 33, 33, 33, 33, 33, 33, 10, 10, 10, 12, 0, 0, 0, 12, 0, 0, 0, 12, 0, 0, 0, 0, 12, 11, 0, 0, 10, 0, 0, 0, 0, 0, 0, 0, 0, 0, 0, 0, 0, 0, 38, 5, 11, 10, 13, 20, 21, 10, 10, 10, 10, 30, 30, 30, 30, 0, 0, 10, 1, 0, 0, 0, 1, 0, 0, 0, 1, 0, 0, 0, 0, 1, 2, 0, 64, 3, 0, 1, 8, 0, 56, 0, 0, 30, 0, 30, 30, 30, 10, 31, 31, 31, 31, 0, 0, 10, 18, 18, 18, 18, 0, 10, 0, 0, 10, 0, 17, 0, 0, 0, 0, 44, 1, 17, 0, 18, 50, 1, 17, 0, 62, 0, 0, 31, 0, 31, 31, 31, 0, 33, 0, 33, 0, 33, 33, 33, 35, 0, 10, 10, 35, 29, 30])
noncomputable def tgP012 : Tg := (gl g0 [1, 0, 0, 10, 10, 0, 0, 0, 0, 0, 0, 0, 0, 0, 0, 0, 0, 0, 0, 0, 0, 0, 0, 0, 0, 0, 0, 0, 0, 0, 0, 0, 0, 0, 12, 0, 12, 0, 0, 0, 0, 1, 0, 0, 0, 13, 13, 13, 13, 13, 13, 13, 0, 0, 13, 0, 0, 14, 0, 0, 13, 13, 12, 0, 0, 0, 0, 12, 0, 0, 12, 0, 12, 0, 0, 0, 12, 0, 11, 11, 11, 13, 14, 14, 0, 14, 0, 15, 0, 15, 0, 15, 0, 15, 15, 14, 15, 15, 17, 0, 10, 10, 10, 10, 0, 0, 0, 0, 10, 10, 0, 0, 0, 0, 0, 0, 19, 19, 0, 19, 0, 19, 19, 19, 0, 19, 0, 19, 19, 19, 20, 0, 20, 0, 20, 0, 20, 20, 20, 20, 20, 20, 20, 10, 10, 10, 1, 0, 0, 0, 1, 0, 0, 0, 1, 0, 0, 0, 0, 1, 2, 0, 3, 9, 0, 1, 2, 3, 4, 5, 6, 7, 8, 10, 10, 0, 0, 10, 0, 15, 0, 0, 0, 10, 0, 0, 0, 0, 0, 9, 0, 10, 12, 0, 0, 0, 12, 0, 0, 0, 12, 0, 0, 0, 0, 12, 11, 0, 0, 10, 0, 0, 0, 0, 0, 0, 0, 0, 0, 0, 0, 0, 10, 0, 21, 3, 11, 10, 13, 10, 10, 10, 0, 20, 0, 20, 0, 20, 20, 20, 20, 20, 20, 20, 10, 10, 10, 1, 0, 0, 0, 1, 0, 0, 0, 1, 0, 0, 0, 0, 1, 2, 0, 4, 9, 0, 1, 2, 3, 4, 5, 6, 7, 8, 10, 10, 0, 0, 10, 0, 16, 0, 0, 0, 10, 0, 15, 0, 0, 10, 0, 10, 12, 0, 0, 0, 12, 0, 0, 0, 12, 0, 0, 0, 0, 12, 11, 0, 0, 10, 0, 0, 0, 0, 0, 0, 0, 0, 0, 0, 0, 0, 10, 0, 22, 3, 11, 10, 13, 10, 10, 10, 0, 20, 0, 20, 0, 20, 20, 20, 20, 20, 20, 20, 10, 10, 10, 1, 0, 0, 0, 1, 0, 0, 0, 1, 0, 0, 0, 0, 1, 2, 0, 5, 9, 0, 1, 2, 3, 4, 5, 6, 7, 8, 10, 10, 0, 0, 10, 0, 17, 0, 0, 0, 10, 0, 16, 0, 0, 11, 0, 10, 12, 0, 0, 0, 12, 0, 0, 0, 12, 0, 0, 0, 0, 12, 11, 0, 0, 10, 0, 0, 0, 0, 0, 0, 0, 0, 0, 0, 0, 0, 10, 0, 23, 3, 11, 10, 13, 10, 10, 10, 0, 20, 0, 20, 0, 20, 20, 20, 20, 20, 20, 20, 10, 10, 10, 1, 0, 0, 0, 1, 0, 0, 0, 1, 0, 0, 0, 0, 1, 2, 0, 6, 9, 0, 1, 2, 3, 4, 5, 6, 7, 8, 10, 10, 0, 0, 10, 0, 18, 0, 0, 0, 10, 0, 17, 0, 0, 12, 0, 0, 10, 10, 0, 0, 0, 30, 1, 17, 0, 20, 0, 20, 0, 20, 20, 20, 20, 20, 20, 20, 10, 10, 10, 1, 0, 0, 0, 1, 0, 0, 0, 1, 0, 0, 0, 0, 1, 2, 0, 7, 9, 0, 1, 2, 3, 4, 5, 6, 7, 8, 10, 10, 0, 0, 10, 0, 19, 0, 0, 0, 10, 0, 17, 0, 0, 13, 0, 0, 10, 10, 0, 0, 0, 31, 1, 17, 0, 20, 0, 20, 0, 20, 20, 20, 20, 20, 20, 20, 10, 10, 10, 1, 0, 0, 0, 1, 0, 0, 0, 1, 0, 0, 0, 0, 1, 2, 0, 8, 9, 0, 1, 2, 3, 4, 5, 6, 7, 8, 10, 10, 0, 0, 10, 0, 20, 0, 0, 0, 10, 0, 17, 0, 0, 14, 0, 0, 10, 10, 0, 0, 0, 32, 1, 17, 0, 20, 0, 20, 0, 20, 20, 20, 25, 0, 10, 0, 0, 18, 18, 18, 0, 18, 0, 26, 26, 26, 26, 26, 18, 27, 27, 0, 27, 0, 28, 0, 28, 0, 28, 0, 28, 28, 27, 28, 28, 10, 10, 10, 1, 0, 0, 0, 1, 0, 0, 0, 1, 0, 0, 0, 0, 1, 2, 10, 0, 63, 3, 0, 1, 8, 0, 28, 0, 28, 0, 28, 28, 27, 28, 28, 10, 10, 10, 1, 0, 0, 0, 1, 0, 0, 0, 1, 0, 0, 0, 0, 1, 2, 10, 0, 63, 3, 0, 1, 8, 0, 28, 0, 28, 0, 28, 28, 27, 28, 28, 10, 10, 10, 1, 0, 0, 0, 1, 0, 0, 0, 1, 0, 0, 0, 0, 1, 2, 10, 0, 63, 3, 0, 1, 8, 0, 28, 0, 28, 0, 28, 28, 27, 28, 28, 30, 0, 10, 10, 10, 10, 10, 10, 0, 0, 0, 0, 0, 0, 33, 33, 0, 33, 0, 33, 33, 33, 0, 33, 0, 33, 33, 33, 34, 0, 34, 0, 34, 0, 34, 34, 34, 34, 34, 34, 34, 10, 10, 10, 12, 0, 0, 0, 12, 0, 0, 0, 12, 0, 0, 0, 0, 12, 11, 0, 0, 10, 0, 0, 0, 0, 0, 0, 0, 0, 0, 0, 0, 0, 0, 33, 6, 11, 10, 13, 20, 21, 22, 10, 10, 10, 10, 31, 31, 31, 31, 0, 0, 10, 0, 15, 0, 0, 31, 0, 31, 31, 31, 10, 32, 32, 32, 32, 0, 0, 10, 0, 15, 0, 0, 32, 0, 32, 32, 32, 10, 10, 10, 0, 34, 0, 34, 0, 34, 34, 34, 34, 34, 34, 34, 10, 10, 10, 12, 0, 0, 0, 12, 0, 0, 0, 12, 0, 0, 0, 0, 12, 11, 0, 0, 10, 0, 0, 0, 0, 0, 0, 0, 0, 0, 0, 0, 0, 0, 34, 6, 11, 10, 13, 20, 21, 22, 10, 10, 10, 10, 31, 31, 31, 31, 0, 0, 10, 0, 16, 0, 0, 31, 0, 31, 31, 31, 10, 32, 32, 32, 32, 0, 0, 10, 0, 16, 0, 0, 32, 0, 32, 32, 32, 10, 10, 10, 0, 34, 0, 34, 0, 34, 34, 34, 34, 34, 34, 34, 10, 10, 10, 12, 0, 0, 0, 12, 0, 0, 0, 12, 0, 0, 0, 0, 12, 11, 0, 0, 10, 0, 0, 0, 0, 0, 0, 0, 0, 0, 0, 0, 0, 0, 35, 6, 11, 10, 13, 20, 21, 22, 10, 10, 10, 10, 31, 31, 31, 31, 0, 0, 10, 0, 17, 0, 0, 31, 0, 31, 31, 31, 10, 32, 32, 32, 32, 0, 0, 10, 0, 17, 0, 0, 32, 0, 32, 32, 32, 10, 10, 10, 0, 34, 0, 34, 0, 34, 34, 34, 34, 34, 34, 34, 10, 10, 10, 12, 0, 0, 0, 12, 0, 0, 0, 12, 0, 0, 0, 0, 12, 11, 0, 0, 10, 0, 0, 0, 0, 0, 0, 0, 0, 0, 0, 0, 0, 0, 36, 6, 11, 10, 13, 20, 21, 22, 10, 10, 10, 10, 31, 31, 31, 31, 0, 0, 10, 1, 0, 0, 0, 1, 0, 0, 0, 1, 0, 0, 0, 0, 1, 2, 0, 64, 3, 0, 1, 8, 0, 54, 0, 0, 31, 0, 31, 31, 31, 10, 32, 32, 32, 32, 0, 0, 10, 18, 18, 18, 18, 0, 10, 0, 0, 10, 0, 17, 0, 0, 0, 0, 42, 1, 17, 0, 18, 48, 1, 17, 0, 60, 0, 0, 32, 0, 32, 32, 32, 0, 34, 0, 34, 0, 34, 34, 34, 34, 34, 34, 34, 10, 10, 10, 12, 0, 0, 0, 12, 0, 0, 0, 12, 0, 0, 0, 0, 12, 11, 0, 0, 10, 0, 0, 0, 0, 0, 0, 0, 0, 0, 0, 0, 0, 0, 37, 6, 11, 10, 13, 20, 21, 22, 10, 10, 10, 10, 31, 31, 31, 31, 0, 0, 10, 1, 0, 0, 0, 1, 0, 0, 0, 1, 0, 0, 0, 0, 1, 2, 0, 64, 3, 0, 1, 8, 0, 55, 0, 0, 31, 0, 31, 31, 31, 10, 32, 32, 32, 32, 0, 0, 10, 18, 18, 18, 18, 0, 10, 0, 0, 10, 0, 17, 0, 0, 0, 0, 43, 1, 17, 0, 18, 49, 1, 17, 0, 61, 0, 0, 32, 0, 32, 32, 32, 0, 34, 0, 34, 0, 34, 34, 34, 34, 34, 34, 34, 10, 10, 10, 12, 0, 0, 0, 12, 0, 0, 0, 12, 0, 0, 0, 0, 12, 11, 0, 0, 10, 0, 0, 0, 0, 0, 0, 0, 0, 0, 0, 0, 0, 0, 38, 6, 11, 10, 13, 20, 21, 22, 10, 10, 10, 10, 31, 31, 31, 31, 0, 0, 10, 1, 0, 0, 0, 1, 0, 0, 0, 1, 0, 0, 0, 0, 1, 2, 0, 64, 3, 0, 1, 8, 0, 56, 0, 0, 31, 0, 31, 31, 31, 10, 32, 32, 32, 32, 0, 0, 10, 18, 18, 18, 18, 0, 10, 0, 0, 10, 0, 17, 0, 0, 0, 0, 44, 1, 17, 0, 18, 50, 1, 17, 0, 62, 0, 0, 32, 0, 32, 32, 32, 0, 34, 0, 34, 0, 34, 34, 34, 36, 0, 10, 10, 36, 30, 31])
noncomputable def tgP03 : Tg := (gl g0 [1, 0, 0, 10, 10, 0, 0, 0, 0, 0, 0, 0, 0, 0, 0, 0, 0, 0, 0, 0, 0, 0, 0, 0, 0, 0, 0, 0, 0, 0, 0, 0, 0, 0, 12, 0, 12, 0, 0, 0, 0, 1, 0, 0, 0, 13, 13, 13, 13, 13, 13, 13, 0, 0, 13, 0, 0, 14, 0, 0, 13, 13, 12, 0, 0, 0, 0, 12, 0, 0, 12, 0, 12, 0, 0, 0, 12, 0, 11, 11, 11, 13, 14, 14, 0, 14, 0, 15, 0, 15, 0, 15, 0, 15, 15, 14, 15, 15, 17, 0, 10, 10, 10, 10, 0, 0, 0, 0, 10, 10, 0, 0, 0, 0, 0, 0, 19, 19, 0, 19, 0, 19, 19, 19, 0, 19, 0, 19, 19, 19, 20, 0, 20, 0, 20, 0, 20, 20, 20, 20, 20, 20, 20, 10, 10, 10, 1, 0, 0, 0, 1, 0, 0, 0, 1, 0, 0, 0, 0, 1, 2, 0, 3, 9, 0, 1, 2, 3, 4, 5, 6, 7, 8, 10, 10, 0, 0, 10, 0, 15, 0, 0, 0, 10, 0, 0, 0, 0, 0, 9, 0, 10, 12, 0, 0, 0, 12, 0, 0, 0, 12, 0, 0, 0, 0, 12, 11, 0, 0, 10, 0, 0, 0, 0, 0, 0, 0, 0, 0, 0, 0, 0, 10, 0, 21, 3, 11, 10, 13, 10, 10, 10, 0, 20, 0, 20, 0, 20, 20, 20, 20, 20, 20, 20, 10, 10, 10, 1, 0, 0, 0, 1, 0, 0, 0, 1, 0, 0, 0, 0, 1, 2, 0, 4, 9, 0, 1, 2, 3, 4, 5, 6, 7, 8, 10, 10, 0, 0, 10, 0, 16, 0, 0, 0, 10, 0, 15, 0, 0, 10, 0, 0, 10, 10, 0, 0, 0, 28, 1, 17, 0, 20, 0, 20, 0, 20, 20, 20, 20, 20, 20, 20, 10, 10, 10, 1, 0, 0, 0, 1, 0, 0, 0, 1, 0, 0, 0, 0, 1, 2, 0, 5, 9, 0, 1, 2, 3, 4, 5, 6, 7, 8, 10, 10, 0, 0, 10, 0, 17, 0, 0, 0, 10, 0, 15, 0, 0, 11, 0, 0, 10, 10, 0, 0, 0, 29, 1, 17, 0, 20, 0, 20, 0, 20, 20, 20, 20, 20, 20, 20, 10, 10, 10, 1, 0, 0, 0, 1, 0, 0, 0, 1, 0, 0, 0, 0, 1, 2, 0, 6, 9, 0, 1, 2, 3, 4, 5, 6, 7, 8, 10, 10, 0, 0, 10, 0, 18, 0, 0, 0, 10, 0, 15, 0, 0, 12, 0, 10, 12, 0, 0, 0, 12, 0, 0, 0, 12, 0, 0, 0, 0, 12, 11, 0, 0, 10, 0, 0, 0, 0, 0, 0, 0, 0, 0, 0, 0, 0, 10, 0, 24, 3, 11, 10, 13, 10, 10, 10, 0, 20, 0, 20, 0, 20, 20, 20, 20, 20, 20, 20, 10, 10, 10, 1, 0, 0, 0, 1, 0, 0, 0, 1, 0, 0, 0, 0, 1, 2, 0, 7, 9, 0, 1, 2, 3, 4, 5, 6, 7, 8, 10, 10, 0, 0, 10, 0, 19, 0, 0, 0, 10, 0, 18, 0, 0, 13, 0, 0, 10, 10, 0, 0, 0, 31, 1, 17, 0, 20, 0, 20, 0, 20, 20, 20, 20, 20, 20, 20, 10, 10, 10, 1, 0, 0, 0, 1, 0, 0, 0, 1, 0, 0, 0, 0, 1, 2, 0, 8, 9, 0, 1, 2, 3, 4, 5, 6, 7, 8, 10, 10, 0, 0, 10, 0, 20, 0, 0, 0, 10, 0, 18, 0, 0, 14, 0, 0, 10, 10, 0, 0, 0, 32, 1, 17, 0, 20, 0, 20, 0, 20, 20, 20, 24, 0, 10, 0, 0, 18, 18, 18, 0, 18, 0, 25, 25, 25, 25, 25, 18, 26, 26, 0, 26, 0, 27, 0, 27, 0, 27, 0, 27, 27, 26, 27, 27, 10, 10, 10, 1, 0, 0, 0, 1, 0, 0, 0, 1, 0, 0, 0, 0, 1, 2, 10, 0, 63, 3, 0, 1, 8, 0, 27, 0, 27, 0, 27, 27, 26, 27, 27, 10, 10, 10, 1, 0, 0, 0, 1, 0, 0, 0, 1, 0, 0, 0, 0, 1, 2, 10, 0, 63, 3, 0, 1, 8, 0, 27, 0, 27, 0, 27, 27, 26, 27, 27, 10, 10, 10, 1, 0, 0, 0, 1, 0, 0, 0, 1, 0, 0, 0, 0, 1, 2, 10, 0, 63, 3, 0, 1, 8, 0, 27, 0, 27, 0, 27, 27, 26, 27, 27, 10, 10, 10, 1, 0, 0, 0, 1, 0, 0, 0, 1, 0, 0, 0, 0, 1, 2, 10, 0, 63, 3, 0, 1, 8, 0, 27, 0, 27, 0, 27, 27, 26, 27, 27, 29, 0, 10, 10, 10, 10, 10, 10, 0, 0, 0, 0, 0, 0, 32, 32, 0, 32, 0, 32, 32, 32, 0, 32, 0, 32, 32, 32, 33, 0, 33, 0, 33, 0, 33, 33, 33, 33, 33, 33, 33, 10, 10, 10, 12, 0, 0, 0, 12, 0, 0, 0, 12, 0, 0, 0, 0, 12, 11, 0, 0, 10, 0, 0, 0, 0, 0, 0, 0, 0, 0, 0, 0, 0, 0, 33, 5, 11, 10, 13, 20, 21, 10, 10, 10, 10, 30, 30, 30, 30, 0, 0, 10, 0, 15, 0, 0, 30, 0, 30, 30, 30, 10, 31, 31, 31, 31, 0, 0, 10, 0, 15, 0, 0, 31, 0, 31, 31, 31, 10, 10, 10, 0, 33, 0, 33, 0, 33, 33, 33, 33, 33, 33, 33, 10, 10, 10, 12, 0, 0, 0, 12, 0, 0, 0, 12, 0, 0, 0, 0, 12, 11, 0, 0, 10, 0, 0, 0, 0, 0, 0, 0, 0, 0, 0, 0, 0, 0, 34, 5, 11, 10, 13, 20, 21, 10, 10, 10, 10, 30, 30, 30, 30, 0, 0, 10, 1, 0, 0, 0, 1, 0, 0, 0, 1, 0, 0, 0, 0, 1, 2, 0, 64, 3, 0, 1, 8, 0, 52, 0, 0, 30, 0, 30, 30, 30, 10, 31, 31, 31, 31, 0, 0, 10, 18, 18, 18, 18, 0, 10, 0, 0, 10, 0, 15, 0, 0, 0, 0, 40, 1, 17, 0, 18, 46, 1, 17, 0, 58, 0, 0, 31, 0, 31, 31, 31, 0, 33, 0, 33, 0, 33, 33, 33, 33, 33, 33, 33, 10, 10, 10, 12, 0, 0, 0, 12, 0, 0, 0, 12, 0, 0, 0, 0, 12, 11, 0, 0, 10, 0, 0, 0, 0, 0, 0, 0, 0, 0, 0, 0, 0, 0, 35, 5, 11, 10, 13, 20, 21, 10, 10, 10, 10, 30, 30, 30, 30, 0, 0, 10, 1, 0, 0, 0, 1, 0, 0, 0, 1, 0, 0, 0, 0, 1, 2, 0, 64, 3, 0, 1, 8, 0, 53, 0, 0, 30, 0, 30, 30, 30, 10, 31, 31, 31, 31, 0, 0, 10, 18, 18, 18, 18, 0, 10, 0, 0, 10, 0, 15, 0, 0, 0, 0, 41, 1, 17, 0, 18, 47, 1, 17, 0, 59, 0, 0, 31, 0, 31, 31, 31, 0, 33, 0, 33, 0, 33, 33, 33, 33, 33, 33, 33, 10, 10, 10, 12, 0, 0, 0, 12, 0, 0, 0, 12, 0, 0, 0, 0, 12, 11, 0, 0, 10, 0, 0, 0, 0, 0, 0, 0, 0, 0, 0, 0, 0, 0, 36, 5, 11, 10, 13, 20, 21, 10, 10, 10, 10, 30, 30, 30, 30, 0, 0, 10, 0, 18, 0, 0, 30, 0, 30, 30, 30, 10, 31, 31, 31, 31, 0, 0, 10, 0, 18, 0, 0, 31, 0, 31, 31, 31, 10, 10, 10, 0, 33, 0, 33, 0, 33, 33, 33, 33, 33, 33, 33, 10, 10, 10, 12, 0, 0, 0, 12, 0, 0, 0, 12, 0, 0, 0, 0, 12, 11, 0, 0, 10, 0, 0, 0, 0, 0, 0, 0, 0, 0, 0, 0, 0, 0, 37, 5, 11, 10, 13, 20, 21, 10, 10, 10, 10, 30, 30, 30, 30, 0, 0, 10, 1, 0, 0, 0, 1, 0, 0, 0, 1, 0, 0, 0, 0, 1, 2, 0, 64, 3, 0, 1, 8, 0, 55, 0, 0, 30, 0, 30, 30, 30, 10, 31, 31, 31, 31, 0, 0, 10, 18, 18, 18, 18, 0, 10, 0, 0, 10, 0, 18, 0, 0, 0, 0, 43, 1, 17, 0, 18, 49, 1, 17, 0, 61, 0, 0, 31, 0, 31, 31, 31, 0, 33, 0, 33, 0, 33, 33, 33, 33, 33, 33, 33, 10, 10, 10, 12, 0, 0, 0, 12, 0, 0, 0, 12, 0, 0, 0, 0, 12, 11, 0, 0, 10, 0, 0, 0, 0, 0, 0, 0, 0, 0, 0, 0, 0, 0, 38, 5, 11, 10, 13, 20, 21, 10, 10, 10, 10, 30, 30, 30, 30, 0, 0, 10, 1, 0, 0, 0, 1, 0, 0, 0, 1, 0, 0, 0, 0, 1, 2, 0, 64, 3, 0, 1, 8, 0, 56, 0, 0, 30, 0, 30, 30, 30, 10, 31, 31, 31, 31, 0, 0, 10, 18, 18, 18, 18, 0, 10, 0, 0, 10, 0, 18, 0, 0, 0, 0, 44, 1, 17, 0, 18, 50, 1, 17, 0, 62, 0, 0, 31, 0, 31, 31, 31, 0, 33, 0, 33, 0, 33, 33, 33, 35, 0, 10, 10, 35, 29, 30])
noncomputable def tgP013 : Tg := (gl g0 [1, 0, 0, 10, 10, 0, 0, 0, 0, 0, 0, 0, 0, 0, 0, 0, 0, 0, 0, 0, 0, 0, 0, 0, 0, 0, 0, 0, 0, 0, 0, 0, 0, 0, 12, 0, 12, 0, 0, 0, 0, 1, 0, 0, 0, 13, 13, 13, 13, 13, 13, 13, 0, 0, 13, 0, 0, 14, 0, 0, 13, 13, 12, 0, 0, 0, 0, 12, 0, 0, 12, 0, 12, 0, 0, 0, 12, 0, 11, 11, 11, 13, 14, 14, 0, 14, 0, 15, 0, 15, 0, 15, 0, 15, 15, 14, 15, 15, 17, 0, 10, 10, 10, 10, 0, 0, 0, 0, 10, 10, 0, 0, 0, 0, 0, 0, 19, 19, 0, 19, 0, 19, 19, 19, 0, 19, 0, 19, 19, 19, 20, 0, 20, 0, 20, 0, 20, 20, 20, 20, 20, 20, 20, 10, 10, 10, 1, 0, 0, 0, 1, 0, 0, 0, 1, 0, 0, 0, 0, 1, 2, 0, 3, 9, 0, 1, 2, 3, 4, 5, 6, 7, 8, 10, 10, 0, 0, 10, 0, 15, 0, 0, 0, 10, 0, 0, 0, 0, 0, 9, 0, 10, 12, 0, 0, 0, 12, 0, 0, 0, 12, 0, 0, 0, 0, 12, 11, 0, 0, 10, 0, 0, 0, 0, 0, 0, 0, 0, 0, 0, 0, 0, 10, 0, 21, 3, 11, 10, 13, 10, 10, 10, 0, 20, 0, 20, 0, 20, 20, 20, 20, 20, 20, 20, 10, 10, 10, 1, 0, 0, 0, 1, 0, 0, 0, 1, 0, 0, 0, 0, 1, 2, 0, 4, 9, 0, 1, 2, 3, 4, 5, 6, 7, 8, 10, 10, 0, 0, 10, 0, 16, 0, 0, 0, 10, 0, 15, 0, 0, 10, 0, 10, 12, 0, 0, 0, 12, 0, 0, 0, 12, 0, 0, 0, 0, 12, 11, 0, 0, 10, 0, 0, 0, 0, 0, 0, 0, 0, 0, 0, 0, 0, 10, 0, 22, 3, 11, 10, 13, 10, 10, 10, 0, 20, 0, 20, 0, 20, 20, 20, 20, 20, 20, 20, 10, 10, 10, 1, 0, 0, 0, 1, 0, 0, 0, 1, 0, 0, 0, 0, 1, 2, 0, 5, 9, 0, 1, 2, 3, 4, 5, 6, 7, 8, 10, 10, 0, 0, 10, 0, 17, 0, 0, 0, 10, 0, 16, 0, 0, 11, 0, 0, 10, 10, 0, 0, 0, 29, 1, 17, 0, 20, 0, 20, 0, 20, 20, 20, 20, 20, 20, 20, 10, 10, 10, 1, 0, 0, 0, 1, 0, 0, 0, 1, 0, 0, 0, 0, 1, 2, 0, 6, 9, 0, 1, 2, 3, 4, 5, 6, 7, 8, 10, 10, 0, 0, 10, 0, 18, 0, 0, 0, 10, 0, 16, 0, 0, 12, 0, 10, 12, 0, 0, 0, 12, 0, 0, 0, 12, 0, 0, 0, 0, 12, 11, 0, 0, 10, 0, 0, 0, 0, 0, 0, 0, 0, 0, 0, 0, 0, 10, 0, 24, 3, 11, 10, 13, 10, 10, 10, 0, 20, 0, 20, 0, 20, 20, 20, 20, 20, 20, 20, 10, 10, 10, 1, 0, 0, 0, 1, 0, 0, 0, 1, 0, 0, 0, 0, 1, 2, 0, 7, 9, 0, 1, 2, 3, 4, 5, 6, 7, 8, 10, 10, 0, 0, 10, 0, 19, 0, 0, 0, 10, 0, 18, 0, 0, 13, 0, 0, 10, 10, 0, 0, 0, 31, 1, 17, 0, 20, 0, 20, 0, 20, 20, 20, 20, 20, 20, 20, 10, 10, 10, 1, 0, 0, 0, 1, 0, 0, 0, 1, 0, 0, 0, 0, 1, 2, 0, 8, 9, 0, 1, 2, 3, 4, 5, 6, 7, 8, 10, 10, 0, 0, 10, 0, 20, 0, 0, 0, 10, 0, 18, 0, 0, 14, 0, 0, 10, 10, 0, 0, 0, 32, 1, 17, 0, 20, 0, 20, 0, 20, 20, 20, 25, 0, 10, 0, 0, 18, 18, 18, 0, 18, 0, 26, 26, 26, 26, 26, 18, 27, 27, 0, 27, 0, 28, 0, 28, 0, 28, 0, 28, 28, 27, 28, 28, 10, 10, 10, 1, 0, 0, 0, 1, 0, 0, 0, 1, 0, 0, 0, 0, 1, 2, 10, 0, 63, 3, 0, 1, 8, 0, 28, 0, 28, 0, 28, 28, 27, 28, 28, 10, 10, 10, 1, 0, 0, 0, 1, 0, 0, 0, 1, 0, 0, 0, 0, 1, 2, 10, 0, 63, 3, 0, 1, 8, 0, 28, 0, 28, 0, 28, 28, 27, 28, 28, 10, 10, 10, 1, 0, 0, 0, 1, 0, 0, 0, 1, 0, 0, 0, 0, 1, 2, 10, 0, 63, 3, 0, 1, 8, 0, 28, 0, 28, 0, 28, 28, 27, 28, 28, 30, 0, 10, 10, 10, 10, 10, 10, 0, 0, 0, 0, 0, 0, 33, 33, 0, 33, 0, 33, 33, 33, 0, 33, 0, 33, 33, 33, 34, 0, 34, 0, 34, 0, 34, 34, 34, 34, 34, 34, 34, 10, 10, 10, 12, 0, 0, 0, 12, 0, 0, 0, 12, 0, 0, 0, 0, 12, 11, 0, 0, 10, 0, 0, 0, 0, 0, 0, 0, 0, 0, 0, 0, 0, 0, 33, 6, 11, 10, 13, 20, 21, 22, 10, 10, 10, 10, 31, 31, 31, 31, 0, 0, 10, 0, 15, 0, 0, 31, 0, 31, 31, 31, 10, 32, 32, 32, 32, 0, 0, 10, 0, 15, 0, 0, 32, 0, 32, 32, 32, 10, 10, 10, 0, 34, 0, 34, 0, 34, 34, 34, 34, 34, 34, 34, 10, 10, 10, 12, 0, 0, 0, 12, 0, 0, 0, 12, 0, 0, 0, 0, 12, 11, 0, 0, 10, 0, 0, 0, 0, 0, 0, 0, 0, 0, 0, 0, 0, 0, 34, 6, 11, 10, 13, 20, 21, 22, 10, 10, 10, 10, 31, 31, 31, 31, 0, 0, 10, 0, 16, 0, 0, 31, 0, 31, 31, 31, 10, 32, 32, 32, 32, 0, 0, 10, 0, 16, 0, 0, 32, 0, 32, 32, 32, 10, 10, 10, 0, 34, 0, 34, 0, 34, 34, 34, 34, 34, 34, 34, 10, 10, 10, 12, 0, 0, 0, 12, 0, 0, 0, 12, 0, 0, 0, 0, 12, 11, 0, 0, 10, 0, 0, 0, 0, 0, 0, 0, 0, 0, 0, 0, 0, 0, 35, 6, 11, 10, 13, 20, 21, 22, 10, 10, 10, 10, 31, 31, 31, 31, 0, 0, 10, 1, 0, 0, 0, 1, 0, 0, 0, 1, 0, 0, 0, 0, 1, 2, 0, 64, 3, 0, 1, 8, 0, 53, 0, 0, 31, 0, 31, 31, 31, 10, 32, 32, 32, 32, 0, 0, 10, 18, 18, 18, 18, 0, 10, 0, 0, 10, 0, 16, 0, 0, 0, 0, 41, 1, 17, 0, 18, 47, 1, 17, 0, 59, 0, 0, 32, 0, 32, 32, 32, 0, 34, 0, 34, 0, 34, 34, 34, 34, 34, 34, 34, 10, 10, 10, 12, 0, 0, 0, 12, 0, 0, 0, 12, 0, 0, 0, 0, 12, 11, 0, 0, 10, 0, 0, 0, 0, 0, 0, 0, 0, 0, 0, 0, 0, 0, 36, 6, 11, 10, 13, 20, 21, 22, 10, 10, 10, 10, 31, 31, 31, 31, 0, 0, 10, 0, 18, 0, 0, 31, 0, 31, 31, 31, 10, 32, 32, 32, 32, 0, 0, 10, 0, 18, 0, 0, 32, 0, 32, 32, 32, 10, 10, 10, 0, 34, 0, 34, 0, 34, 34, 34, 34, 34, 34, 34, 10, 10, 10, 12, 0, 0, 0, 12, 0, 0, 0, 12, 0, 0, 0, 0, 12, 11, 0, 0, 10, 0, 0, 0, 0, 0, 0, 0, 0, 0, 0, 0, 0, 0, 37, 6, 11, 10, 13, 20, 21, 22, 10, 10, 10, 10, 31, 31, 31, 31, 0, 0, 10, 1, 0, 0, 0, 1, 0, 0, 0, 1, 0, 0, 0, 0, 1, 2, 0, 64, 3, 0, 1, 8, 0, 55, 0, 0, 31, 0, 31, 31, 31, 10, 32, 32, 32, 32, 0, 0, 10, 18, 18, 18, 18, 0, 10, 0, 0, 10, 0, 18, 0, 0, 0, 0, 43, 1, 17, 0, 18, 49, 1, 17, 0, 61, 0, 0, 32, 0, 32, 32, 32, 0, 34, 0, 34, 0, 34, 34, 34, 34, 34, 34, 34, 10, 10, 10, 12, 0, 0, 0, 12, 0, 0, 0, 12, 0, 0, 0, 0, 12, 11, 0, 0, 10, 0, 0, 0, 0, 0, 0, 0, 0, 0, 0, 0, 0, 0, 38, 6, 11, 10, 13, 20, 21, 22, 10, 10, 10, 10, 31, 31, 31, 31, 0, 0, 10, 1, 0, 0, 0, 1, 0, 0, 0, 1, 0, 0, 0, 0, 1, 2, 0, 64, 3, 0, 1, 8, 0, 56, 0, 0, 31, 0, 31, 31, 31, 10, 32, 32, 32, 32, 0, 0, 10, 18, 18, 18, 18, 0, 10, 0, 0, 10, 0, 18, 0, 0, 0, 0, 44, 1, 17, 0, 18, 50, 1, 17, 0, 62, 0, 0, 32, 0, 32, 32, 32, 0, 34, 0, 34, 0, 34, 34, 34, 36, 0, 10, 10, 36, 30, 31])
noncomputable def tgP023 : Tg := (gl g0 [1, 0, 0, 10, 10, 0, 0, 0, 0, 0, 0, 0, 0, 0, 0, 0, 0, 0, 0, 0, 0, 0, 0, 0, 0, 0, 0, 0, 0, 0, 0, 0, 0, 0, 12, 0, 12, 0, 0, 0, 0, 1, 0, 0, 0, 13, 13, 13, 13, 13, 13, 13, 0, 0, 13, 0, 0, 14, 0, 0, 13, 13, 12, 0, 0, 0, 0, 12, 0, 0, 12, 0, 12, 0, 0, 0, 12, 0, 11, 11, 11, 13, 14, 14, 0, 14, 0, 15, 0, 15, 0, 15, 0, 15, 15, 14, 15, 15, 17, 0, 10, 10, 10, 10, 0, 0, 0, 0, 10, 10, 0, 0, 0, 0, 0, 0, 19, 19, 0, 19, 0, 19, 19, 19, 0, 19, 0, 19, 19, 19, 20, 0, 20, 0, 20, 0, 20, 20, 20, 20, 20, 20, 20, 10, 10, 10, 1, 0, 0, 0, 1, 0, 0, 0, 1, 0, 0, 0, 0, 1, 2, 0, 3, 9, 0, 1, 2, 3, 4, 5, 6, 7, 8, 10, 10, 0, 0, 10, 0, 15, 0, 0, 0, 10, 0, 0, 0, 0, 0, 9, 0, 10, 12, 0, 0, 0, 12, 0, 0, 0, 12, 0, 0, 0, 0, 12, 11, 0, 0, 10, 0, 0, 0, 0, 0, 0, 0, 0, 0, 0, 0, 0, 10, 0, 21, 3, 11, 10, 13, 10, 10, 10, 0, 20, 0, 20, 0, 20, 20, 20, 20, 20, 20, 20, 10, 10, 10, 1, 0, 0, 0, 1, 0, 0, 0, 1, 0, 0, 0, 0, 1, 2, 0, 4, 9, 0, 1, 2, 3, 4, 5, 6, 7, 8, 10, 10, 0, 0, 10, 0, 16, 0, 0, 0, 10, 0, 15, 0, 0, 10, 0, 0, 10, 10, 0, 0, 0, 28, 1, 17, 0, 20, 0, 20, 0, 20, 20, 20, 20, 20, 20, 20, 10, 10, 10, 1, 0, 0, 0, 1, 0, 0, 0, 1, 0, 0, 0, 0, 1, 2, 0, 5, 9, 0, 1, 2, 3, 4, 5, 6, 7, 8, 10, 10, 0, 0, 10, 0, 17, 0, 0, 0, 10, 0, 15, 0, 0, 11, 0, 10, 12, 0, 0, 0, 12, 0, 0, 0, 12, 0, 0, 0, 0, 12, 11, 0, 0, 10, 0, 0, 0, 0, 0, 0, 0, 0, 0, 0, 0, 0, 10, 0, 23, 3, 11, 10, 13, 10, 10, 10, 0, 20, 0, 20, 0, 20, 20, 20, 20, 20, 20, 20, 10, 10, 10, 1, 0, 0, 0, 1, 0, 0, 0, 1, 0, 0, 0, 0, 1, 2, 0, 6, 9, 0, 1, 2, 3, 4, 5, 6, 7, 8, 10, 10, 0, 0, 10, 0, 18, 0, 0, 0, 10, 0, 17, 0, 0, 12, 0, 10, 12, 0, 0, 0, 12, 0, 0, 0, 12, 0, 0, 0, 0, 12, 11, 0, 0, 10, 0, 0, 0, 0, 0, 0, 0, 0, 0, 0, 0, 0, 10, 0, 24, 3, 11, 10, 13, 10, 10, 10, 0, 20, 0, 20, 0, 20, 20, 20, 20, 20, 20, 20, 10, 10, 10, 1, 0, 0, 0, 1, 0, 0, 0, 1, 0, 0, 0, 0, 1, 2, 0, 7, 9, 0, 1, 2, 3, 4, 5, 6, 7, 8, 10, 10, 0, 0, 10, 0, 19, 0, 0, 0, 10, 0, 18, 0, 0, 13, 0, 0, 10, 10, 0, 0, 0, 31, 1, 17, 0, 20, 0, 20, 0, 20, 20, 20, 20, 20, 20, 20, 10, 10, 10, 1, 0, 0, 0, 1, 0, 0, 0, 1, 0, 0, 0, 0, 1, 2, 0, 8, 9, 0, 1, 2, 3, 4, 5, 6, 7, 8, 10, 10, 0, 0, 10, 0, 20, 0, 0, 0, 10, 0, 18, 0, 0, 14, 0, 0, 10, 10, 0, 0, 0, 32, 1, 17, 0, 20, 0, 20, 0, 20, 20, 20, 25, 0, 10, 0, 0, 18, 18, 18, 0, 18, 0, 26, 26, 26, 26, 26, 18, 27, 27, 0, 27, 0, 28, 0, 28, 0, 28, 0, 28, 28, 27, 28, 28, 10, 10, 10, 1, 0, 0, 0, 1, 0, 0, 0, 1, 0, 0, 0, 0, 1, 2, 10, 0, 63, 3, 0, 1, 8, 0, 28, 0, 28, 0, 28, 28, 27, 28, 28, 10, 10, 10, 1, 0, 0, 0, 1, 0, 0, 0, 1, 0, 0, 0, 0, 1, 2, 10, 0, 63, 3, 0, 1, 8, 0, 28, 0, 28, 0, 28, 28, 27, 28, 28, 10, 10, 10, 1, 0, 0, 0, 1, 0, 0, 0, 1, 0, 0, 0, 0, 1, 2, 10, 0, 63, 3, 0, 1, 8, 0, 28, 0, 28, 0, 28, 28, 27, 28, 28, 30, 0, 10, 10, 10, 10, 10, 10, 0, 0, 0, 0, 0, 0, 33, 33, 0, 33, 0, 33, 33, 33, 0, 33, 0, 33, 33, 33, 34, 0, 34, 0, 34, 0, 34, 34, 34, 34, 34, 34, 34, 10, 10, 10, 12, 0, 0, 0, 12, 0, 0, 0, 12, 0, 0, 0, 0, 12, 11, 0, 0, 10, 0, 0, 0, 0, 0, 0, 0, 0, 0, 0, 0, 0, 0, 33, 6, 11, 10, 13, 20, 21, 22, 10, 10, 10, 10, 31, 31, 31, 31, 0, 0, 10, 0, 15, 0, 0, 31, 0, 31, 31, 31, 10, 32, 32, 32, 32, 0, 0, 10, 0, 15, 0, 0, 32, 0, 32, 32, 32, 10, 10, 10, 0, 34, 0, 34, 0, 34, 34, 34, 34, 34, 34, 34, 10, 10, 10, 12, 0, 0, 0, 12, 0, 0, 0, 12, 0, 0, 0, 0, 12, 11, 0, 0, 10, 0, 0, 0, 0, 0, 0, 0, 0, 0, 0, 0, 0, 0, 34, 6, 11, 10, 13, 20, 21, 22, 10, 10, 10, 10, 31, 31, 31, 31, 0, 0, 10, 1, 0, 0, 0, 1, 0, 0, 0, 1, 0, 0, 0, 0, 1, 2, 0, 64, 3, 0, 1, 8, 0, 52, 0, 0, 31, 0, 31, 31, 31, 10, 32, 32, 32, 32, 0, 0, 10, 18, 18, 18, 18, 0, 10, 0, 0, 10, 0, 15, 0, 0, 0, 0, 40, 1, 17, 0, 18, 46, 1, 17, 0, 58, 0, 0, 32, 0, 32, 32, 32, 0, 34, 0, 34, 0, 34, 34, 34, 34, 34, 34, 34, 10, 10, 10, 12, 0, 0, 0, 12, 0, 0, 0, 12, 0, 0, 0, 0, 12, 11, 0, 0, 10, 0, 0, 0, 0, 0, 0, 0, 0, 0, 0, 0, 0, 0, 35, 6, 11, 10, 13, 20, 21, 22, 10, 10, 10, 10, 31, 31, 31, 31, 0, 0, 10, 0, 17, 0, 0, 31, 0, 31, 31, 31, 10, 32, 32, 32, 32, 0, 0, 10, 0, 17, 0, 0, 32, 0, 32, 32, 32, 10, 10, 10, 0, 34, 0, 34, 0, 34, 34, 34, 34, 34, 34, 34, 10, 10, 10, 12, 0, 0, 0, 12, 0, 0, 0, 12, 0, 0, 0, 0, 12, 11, 0, 0, 10, 0, 0, 0, 0, 0, 0, 0, 0, 0, 0, 0, 0, 0, 36, 6, 11, 10, 13, 20, 21, 22, 10, 10, 10, 10, 31, 31, 31, 31, 0, 0, 10, 0, 18, 0, 0, 31, 0, 31, 31, 31, 10, 32, 32, 32, 32, 0, 0, 10, 0, 18, 0, 0, 32, 0, 32, 32, 32, 10, 10, 10, 0, 34, 0, 34, 0, 34, 34, 34, 34, 34, 34, 34, 10, 10, 10, 12, 0, 0, 0, 12, 0, 0, 0, 12, 0, 0, 0, 0, 12, 11, 0, 0, 10, 0, 0, 0, 0, 0, 0, 0, 0, 0, 0, 0, 0, 0, 37, 6, 11, 10, 13, 20, 21, 22, 10, 10, 10, 10, 31, 31, 31, 31, 0, 0, 10, 1, 0, 0, 0, 1, 0, 0, 0, 1, 0, 0, 0, 0, 1, 2, 0, 64, 3, 0, 1, 8, 0, 55, 0, 0, 31, 0, 31, 31, 31, 10, 32, 32, 32, 32, 0, 0, 10, 18, 18, 18, 18, 0, 10, 0, 0, 10, 0, 18, 0, 0, 0, 0, 43, 1, 17, 0, 18, 49, 1, 17, 0, 61, 0, 0, 32, 0, 32, 32, 32, 0, 34, 0, 34, 0, 34, 34, 34, 34, 34, 34, 34, 10, 10, 10, 12, 0, 0, 0, 12, 0, 0, 0, 12, 0, 0, 0, 0, 12, 11, 0, 0, 10, 0, 0, 0, 0, 0, 0, 0, 0, 0, 0, 0, 0, 0, 38, 6, 11, 10, 13, 20, 21, 22, 10, 10, 10, 10, 31, 31, 31, 31, 0, 0, 10, 1, 0, 0, 0, 1, 0, 0, 0, 1, 0, 0, 0, 0, 1, 2, 0, 64, 3, 0, 1, 8, 0, 56, 0, 0, 31, 0, 31, 31, 31, 10, 32, 32, 32, 32, 0, 0, 10, 18, 18, 18, 18, 0, 10, 0, 0, 10, 0, 18, 0, 0, 0, 0, 44, 1, 17, 0, 18, 50, 1, 17, 0, 62, 0, 0, 32, 0, 32, 32, 32, 0, 34, 0, 34, 0, 34, 34, 34, 36, 0, 10, 10, 36, 30, 31])
noncomputable def tgP0123 : Tg := (gl g0 [1, 0, 0, 10, 10, 0, 0, 0, 0, 0, 0, 0, 0, 0, 0, 0, 0, 0, 0, 0, 0, 0, 0, 0, 0, 0, 0, 0, 0, 0, 0, 0, 0, 0, 12, 0, 12, 0, 0, 0, 0, 1, 0, 0, 0, 13, 13, 13, 13, 13, 13, 13, 0, 0, 13, 0, 0, 14, 0, 0, 13, 13, 12, 0, 0, 0, 0, 12, 0, 0, 12, 0, 12, 0, 0, 0, 12, 0, 11, 11, 11, 13, 14, 14, 0, 14, 0, 15, 0, 15, 0, 15, 0, 15, 15, 14, 15, 15, 17, 0, 10, 10, 10, 10, 0, 0, 0, 0, 10, 10, 0, 0, 0, 0, 0, 0, 19, 19, 0, 19, 0, 19, 19, 19, 0, 19, 0, 19, 19, 19, 20, 0, 20, 0, 20, 0, 20, 20, 20, 20, 20, 20, 20, 10, 10, 10, 1, 0, 0, 0, 1, 0, 0, 0, 1, 0, 0, 0, 0, 1, 2, 0, 3, 9, 0, 1, 2, 3, 4, 5, 6, 7, 8, 10, 10, 0, 0, 10, 0, 15, 0, 0, 0, 10, 0, 0, 0, 0, 0, 9, 0, 10, 12, 0, 0, 0, 12, 0, 0, 0, 12, 0, 0, 0, 0, 12, 11, 0, 0, 10, 0, 0, 0, 0, 0, 0, 0, 0, 0, 0, 0, 0, 10, 0, 21, 3, 11, 10, 13, 10, 10, 10, 0, 20, 0, 20, 0, 20, 20, 20, 20, 20, 20, 20, 10, 10, 10, 1, 0, 0, 0, 1, 0, 0, 0, 1, 0, 0, 0, 0, 1, 2, 0, 4, 9, 0, 1, 2, 3, 4, 5, 6, 7, 8, 10, 10, 0, 0, 10, 0, 16, 0, 0, 0, 10, 0, 15, 0, 0, 10, 0, 10, 12, 0, 0, 0, 12, 0, 0, 0, 12, 0, 0, 0, 0, 12, 11, 0, 0, 10, 0, 0, 0, 0, 0, 0, 0, 0, 0, 0, 0, 0, 10, 0, 22, 3, 11, 10, 13, 10, 10, 10, 0, 20, 0, 20, 0, 20, 20, 20, 20, 20, 20, 20, 10, 10, 10, 1, 0, 0, 0, 1, 0, 0, 0, 1, 0, 0, 0, 0, 1, 2, 0, 5, 9, 0, 1, 2, 3, 4, 5, 6, 7, 8, 10, 10, 0, 0, 10, 0, 17, 0, 0, 0, 10, 0, 16, 0, 0, 11, 0, 10, 12, 0, 0, 0, 12, 0, 0, 0, 12, 0, 0, 0, 0, 12, 11, 0, 0, 10, 0, 0, 0, 0, 0, 0, 0, 0, 0, 0, 0, 0, 10, 0, 23, 3, 11, 10, 13, 10, 10, 10, 0, 20, 0, 20, 0, 20, 20, 20, 20, 20, 20, 20, 10, 10, 10, 1, 0, 0, 0, 1, 0, 0, 0, 1, 0, 0, 0, 0, 1, 2, 0, 6, 9, 0, 1, 2, 3, 4, 5, 6, 7, 8, 10, 10, 0, 0, 10, 0, 18, 0, 0, 0, 10, 0, 17, 0, 0, 12, 0, 10, 12, 0, 0, 0, 12, 0, 0, 0, 12, 0, 0, 0, 0, 12, 11, 0, 0, 10, 0, 0, 0, 0, 0, 0, 0, 0, 0, 0, 0, 0, 10, 0, 24, 3, 11, 10, 13, 10, 10, 10, 0, 20, 0, 20, 0, 20, 20, 20, 20, 20, 20, 20, 10, 10, 10, 1, 0, 0, 0, 1, 0, 0, 0, 1, 0, 0, 0, 0, 1, 2, 0, 7, 9, 0, 1, 2, 3, 4, 5, 6, 7, 8, 10, 10, 0, 0, 10, 0, 19, 0, 0, 0, 10, 0, 18, 0, 0, 13, 0, 0, 10, 10, 0, 0, 0, 31, 1, 17, 0, 20, 0, 20, 0, 20, 20, 20, 20, 20, 20, 20, 10, 10, 10, 1, 0, 0, 0, 1, 0, 0, 0, 1, 0, 0, 0, 0, 1, 2, 0, 8, 9, 0, 1, 2, 3, 4, 5, 6, 7, 8, 10, 10, 0, 0, 10, 0, 20, 0, 0, 0, 10, 0, 18, 0, 0, 14, 0, 0, 10, 10, 0, 0, 0, 32, 1, 17, 0, 20, 0, 20, 0, 20, 20, 20, 26, 0, 10, 0, 0, 18, 18, 18, 0, 18, 0, 27, 27, 27, 27, 27, 18, 28, 28, 0, 28, 0, 29, 0, 29, 0, 29, 0, 29, 29, 28, 29, 29, 10, 10, 10, 1, 0, 0, 0, 1, 0, 0, 0, 1, 0, 0, 0, 0, 1, 2, 10, 0, 63, 3, 0, 1, 8, 0, 29, 0, 29, 0, 29, 29, 28, 29, 29, 10, 10, 10, 1, 0, 0, 0, 1, 0, 0, 0, 1, 0, 0, 0, 0, 1, 2, 10, 0, 63, 3, 0, 1, 8, 0, 29, 0, 29, 0, 29, 29, 28, 29, 29, 31, 0, 10, 10, 10, 10, 10, 10, 0, 0, 0, 0, 0, 0, 34, 34, 0, 34, 0, 34, 34, 34, 0, 34, 0, 34, 34, 34, 35, 0, 35, 0, 35, 0, 35, 35, 35, 35, 35, 35, 35, 10, 10, 10, 12, 0, 0, 0, 12, 0, 0, 0, 12, 0, 0, 0, 0, 12, 11, 0, 0, 10, 0, 0, 0, 0, 0, 0, 0, 0, 0, 0, 0, 0, 0, 33, 7, 11, 10, 13, 20, 21, 22, 23, 10, 10, 10, 10, 32, 32, 32, 32, 0, 0, 10, 0, 15, 0, 0, 32, 0, 32, 32, 32, 10, 33, 33, 33, 33, 0, 0, 10, 0, 15, 0, 0, 33, 0, 33, 33, 33, 10, 10, 10, 0, 35, 0, 35, 0, 35, 35, 35, 35, 35, 35, 35, 10, 10, 10, 12, 0, 0, 0, 12, 0, 0, 0, 12, 0, 0, 0, 0, 12, 11, 0, 0, 10, 0, 0, 0, 0, 0, 0, 0, 0, 0, 0, 0, 0, 0, 34, 7, 11, 10, 13, 20, 21, 22, 23, 10, 10, 10, 10, 32, 32, 32, 32, 0, 0, 10, 0, 16, 0, 0, 32, 0, 32, 32, 32, 10, 33, 33, 33, 33, 0, 0, 10, 0, 16, 0, 0, 33, 0, 33, 33, 33, 10, 10, 10, 0, 35, 0, 35, 0, 35, 35, 35, 35, 35, 35, 35, 10, 10, 10, 12, 0, 0, 0, 12, 0, 0, 0, 12, 0, 0, 0, 0, 12, 11, 0, 0, 10, 0, 0, 0, 0, 0, 0, 0, 0, 0, 0, 0, 0, 0, 35, 7, 11, 10, 13, 20, 21, 22, 23, 10, 10, 10, 10, 32, 32, 32, 32, 0, 0, 10, 0, 17, 0, 0, 32, 0, 32, 32, 32, 10, 33, 33, 33, 33, 0, 0, 10, 0, 17, 0, 0, 33, 0, 33, 33, 33, 10, 10, 10, 0, 35, 0, 35, 0, 35, 35, 35, 35, 35, 35, 35, 10, 10, 10, 12, 0, 0, 0, 12, 0, 0, 0, 12, 0, 0, 0, 0, 12, 11, 0, 0, 10, 0, 0, 0, 0, 0, 0, 0, 0, 0, 0, 0, 0, 0, 36, 7, 11, 10, 13, 20, 21, 22, 23, 10, 10, 10, 10, 32, 32, 32, 32, 0, 0, 10, 0, 18, 0, 0, 32, 0, 32, 32, 32, 10, 33, 33, 33, 33, 0, 0, 10, 0, 18, 0, 0, 33, 0, 33, 33, 33, 10, 10, 10, 0, 35, 0, 35, 0, 35, 35, 35, 35, 35, 35, 35, 10, 10, 10, 12, 0, 0, 0, 12, 0, 0, 0, 12, 0, 0, 0, 0, 12, 11, 0, 0, 10, 0, 0, 0, 0, 0, 0, 0, 0, 0, 0, 0, 0, 0, 37, 7, 11, 10, 13, 20, 21, 22, 23, 10, 10, 10, 10, 32, 32, 32, 32, 0, 0, 10, 1, 0, 0, 0, 1, 0, 0, 0, 1, 0, 0, 0, 0, 1, 2, 0, 64, 3, 0, 1, 8, 0, 55, 0, 0, 32, 0, 32, 32, 32, 10, 33, 33, 33, 33, 0, 0, 10, 18, 18, 18, 18, 0, 10, 0, 0, 10, 0, 18, 0, 0, 0, 0, 43, 1, 17, 0, 18, 49, 1, 17, 0, 61, 0, 0, 33, 0, 33, 33, 33, 0, 35, 0, 35, 0, 35, 35, 35, 35, 35, 35, 35, 10, 10, 10, 12, 0, 0, 0, 12, 0, 0, 0, 12, 0, 0, 0, 0, 12, 11, 0, 0, 10, 0, 0, 0, 0, 0, 0, 0, 0, 0, 0, 0, 0, 0, 38, 7, 11, 10, 13, 20, 21, 22, 23, 10, 10, 10, 10, 32, 32, 32, 32, 0, 0, 10, 1, 0, 0, 0, 1, 0, 0, 0, 1, 0, 0, 0, 0, 1, 2, 0, 64, 3, 0, 1, 8, 0, 56, 0, 0, 32, 0, 32, 32, 32, 10, 33, 33, 33, 33, 0, 0, 10, 18, 18, 18, 18, 0, 10, 0, 0, 10, 0, 18, 0, 0, 0, 0, 44, 1, 17, 0, 18, 50, 1, 17, 0, 62, 0, 0, 33, 0, 33, 33, 33, 0, 35, 0, 35, 0, 35, 35, 35, 37, 0, 10, 10, 37, 31, 32])
noncomputable def tgP04 : Tg := (gl g0 [1, 0, 0, 10, 10, 0, 0, 0, 0, 0, 0, 0, 0, 0, 0, 0, 0, 0, 0, 0, 0, 0, 0, 0, 0, 0, 0, 0, 0, 0, 0, 0, 0, 0, 12, 0, 12, 0, 0, 0, 0, 1, 0, 0, 0, 13, 13, 13, 13, 13, 13, 13, 0, 0, 13, 0, 0, 14, 0, 0, 13, 13, 12, 0, 0, 0, 0, 12, 0, 0, 12, 0, 12, 0, 0, 0, 12, 0, 11, 11, 11, 13, 14, 14, 0, 14, 0, 15, 0, 15, 0, 15, 0, 15, 15, 14, 15, 15, 17, 0, 10, 10, 10, 10, 0, 0, 0, 0, 10, 10, 0, 0, 0, 0, 0, 0, 19, 19, 0, 19, 0, 19, 19, 19, 0, 19, 0, 19, 19, 19, 20, 0, 20, 0, 20, 0, 20, 20, 20, 20, 20, 20, 20, 10, 10, 10, 1, 0, 0, 0, 1, 0, 0, 0, 1, 0, 0, 0, 0, 1, 2, 0, 3, 9, 0, 1, 2, 3, 4, 5, 6, 7, 8, 10, 10, 0, 0, 10, 0, 15, 0, 0, 0, 10, 0, 0, 0, 0, 0, 9, 0, 10, 12, 0, 0, 0, 12, 0, 0, 0, 12, 0, 0, 0, 0, 12, 11, 0, 0, 10, 0, 0, 0, 0, 0, 0, 0, 0, 0, 0, 0, 0, 10, 0, 21, 3, 11, 10, 13, 10, 10, 10, 0, 20, 0, 20, 0, 20, 20, 20, 20, 20, 20, 20, 10, 10, 10, 1, 0, 0, 0, 1, 0, 0, 0, 1, 0, 0, 0, 0, 1, 2, 0, 4, 9, 0, 1, 2, 3, 4, 5, 6, 7, 8, 10, 10, 0, 0, 10, 0, 16, 0, 0, 0, 10, 0, 15, 0, 0, 10, 0, 0, 10, 10, 0, 0, 0, 28, 1, 17, 0, 20, 0, 20, 0, 20, 20, 20, 20, 20, 20, 20, 10, 10, 10, 1, 0, 0, 0, 1, 0, 0, 0, 1, 0, 0, 0, 0, 1, 2, 0, 5, 9, 0, 1, 2, 3, 4, 5, 6, 7, 8, 10, 10, 0, 0, 10, 0, 17, 0, 0, 0, 10, 0, 15, 0, 0, 11, 0, 0, 10, 10, 0, 0, 0, 29, 1, 17, 0, 20, 0, 20, 0, 20, 20, 20, 20, 20, 20, 20, 10, 10, 10, 1, 0, 0, 0, 1, 0, 0, 0, 1, 0, 0, 0, 0, 1, 2, 0, 6, 9, 0, 1, 2, 3, 4, 5, 6, 7, 8, 10, 10, 0, 0, 10, 0, 18, 0, 0, 0, 10, 0, 15, 0, 0, 12, 0, 0, 10, 10, 0, 0, 0, 30, 1, 17, 0, 20, 0, 20, 0, 20, 20, 20, 20, 20, 20, 20, 10, 10, 10, 1, 0, 0, 0, 1, 0, 0, 0, 1, 0, 0, 0, 0, 1, 2, 0, 7, 9, 0, 1, 2, 3, 4, 5, 6, 7, 8, 10, 10, 0, 0, 10, 0, 19, 0, 0, 0, 10, 0, 15, 0, 0, 13, 0, 10, 12, 0, 0, 0, 12, 0, 0, 0, 12, 0, 0, 0, 0, 12, 11, 0, 0, 10, 0, 0, 0, 0, 0, 0, 0, 0, 0, 0, 0, 0, 10, 0, 25, 3, 11, 10, 13, 10, 10, 10, 0, 20, 0, 20, 0, 20, 20, 20, 20, 20, 20, 20, 10, 10, 10, 1, 0, 0, 0, 1, 0, 0, 0, 1, 0, 0, 0, 0, 1, 2, 0, 8, 9, 0, 1, 2, 3, 4, 5, 6, 7, 8, 10, 10, 0, 0, 10, 0, 20, 0, 0, 0, 10, 0, 19, 0, 0, 14, 0, 0, 10, 10, 0, 0, 0, 32, 1, 17, 0, 20, 0, 20, 0, 20, 20, 20, 24, 0, 10, 0, 0, 18, 18, 18, 0, 18, 0, 25, 25, 25, 25, 25, 18, 26, 26, 0, 26, 0, 27, 0, 27, 0, 27, 0, 27, 27, 26, 27, 27, 10, 10, 10, 1, 0, 0, 0, 1, 0, 0, 0, 1, 0, 0, 0, 0, 1, 2, 10, 0, 63, 3, 0, 1, 8, 0, 27, 0, 27, 0, 27, 27, 26, 27, 27, 10, 10, 10, 1, 0, 0, 0, 1, 0, 0, 0, 1, 0, 0, 0, 0, 1, 2, 10, 0, 63, 3, 0, 1, 8, 0, 27, 0, 27, 0, 27, 27, 26, 27, 27, 10, 10, 10, 1, 0, 0, 0, 1, 0, 0, 0, 1, 0, 0, 0, 0, 1, 2, 10, 0, 63, 3, 0, 1, 8, 0, 27, 0, 27, 0, 27, 27, 26, 27, 27, 10, 10, 10, 1, 0, 0, 0, 1, 0, 0, 0, 1, 0, 0, 0, 0, 1, 2, 10, 0, 63, 3, 0, 1, 8, 0, 27, 0, 27, 0, 27, 27, 26, 27, 27, 29, 0, 10, 10, 10, 10, 10, 10, 0, 0, 0, 0, 0, 0, 32, 32, 0, 32, 0, 32, 32, 32, 0, 32, 0, 32, 32, 32, 33, 0, 33, 0, 33, 0, 33, 33, 33, 33, 33, 33, 33, 10, 10, 10, 12, 0, 0, 0, 12, 0, 0, 0, 12, 0, 0, 0, 0, 12, 11, 0, 0, 10, 0, 0, 0, 0, 0, 0, 0, 0, 0, 0, 0, 0, 0, 33, 5, 11, 10, 13, 20, 21, 10, 10, 10, 10, 30, 30, 30, 30, 0, 0, 10, 0, 15, 0, 0, 30, 0, 30, 30, 30, 10, 31, 31, 31, 31, 0, 0, 10, 0, 15, 0, 0, 31, 0, 31, 31, 31, 10, 10, 10, 0, 33, 0, 33, 0, 33, 33, 33, 33, 33, 33, 33, 10, 10, 10, 12, 0, 0, 0, 12, 0, 0, 0, 12, 0, 0, 0, 0, 12, 11, 0, 0, 10, 0, 0, 0, 0, 0, 0, 0, 0, 0, 0, 0, 0, 0, 34, 5, 11, 10, 13, 20, 21, 10, 10, 10, 10, 30, 30, 30, 30, 0, 0, 10, 1, 0, 0, 0, 1, 0, 0, 0, 1, 0, 0, 0, 0, 1, 2, 0, 64, 3, 0, 1, 8, 0, 52, 0, 0, 30, 0, 30, 30, 30, 10, 31, 31, 31, 31, 0, 0, 10, 18, 18, 18, 18, 0, 10, 0, 0, 10, 0, 15, 0, 0, 0, 0, 40, 1, 17, 0, 18, 46, 1, 17, 0, 58, 0, 0, 31, 0, 31, 31, 31, 0, 33, 0, 33, 0, 33, 33, 33, 33, 33, 33, 33, 10, 10, 10, 12, 0, 0, 0, 12, 0, 0, 0, 12, 0, 0, 0, 0, 12, 11, 0, 0, 10, 0, 0, 0, 0, 0, 0, 0, 0, 0, 0, 0, 0, 0, 35, 5, 11, 10, 13, 20, 21, 10, 10, 10, 10, 30, 30, 30, 30, 0, 0, 10, 1, 0, 0, 0, 1, 0, 0, 0, 1, 0, 0, 0, 0, 1, 2, 0, 64, 3, 0, 1, 8, 0, 53, 0, 0, 30, 0, 30, 30, 30, 10, 31, 31, 31, 31, 0, 0, 10, 18, 18, 18, 18, 0, 10, 0, 0, 10, 0, 15, 0, 0, 0, 0, 41, 1, 17, 0, 18, 47, 1, 17, 0, 59, 0, 0, 31, 0, 31, 31, 31, 0, 33, 0, 33, 0, 33, 33, 33, 33, 33, 33, 33, 10, 10, 10, 12, 0, 0, 0, 12, 0, 0, 0, 12, 0, 0, 0, 0, 12, 11, 0, 0, 10, 0, 0, 0, 0, 0, 0, 0, 0, 0, 0, 0, 0, 0, 36, 5, 11, 10, 13, 20, 21, 10, 10, 10, 10, 30, 30, 30, 30, 0, 0, 10, 1, 0, 0, 0, 1, 0, 0, 0, 1, 0, 0, 0, 0, 1, 2, 0, 64, 3, 0, 1, 8, 0, 54, 0, 0, 30, 0, 30, 30, 30, 10, 31, 31, 31, 31, 0, 0, 10, 18, 18, 18, 18, 0, 10, 0, 0, 10, 0, 15, 0, 0, 0, 0, 42, 1, 17, 0, 18, 48, 1, 17, 0, 60, 0, 0, 31, 0, 31, 31, 31, 0, 33, 0, 33, 0, 33, 33, 33, 33, 33, 33, 33, 10, 10, 10, 12, 0, 0, 0, 12, 0, 0, 0, 12, 0, 0, 0, 0, 12, 11, 0, 0, 10, 0, 0, 0, 0, 0, 0, 0, 0, 0, 0, 0, 0, 0, 37, 5, 11, 10, 13, 20, 21, 10, 10, 10, 10, 30, 30, 30, 30, 0, 0, 10, 0, 19, 0, 0, 30, 0, 30, 30, 30, 10, 31, 31, 31, 31, 0, 0, 10, 0, 19, 0, 0, 31, 0, 31, 31, 31, 10, 10, 10, 0, 33, 0, 33, 0, 33, 33, 33, 33, 33, 33, 33, 10, 10, 10, 12, 0, 0, 0, 12, 0, 0, 0, 12, 0, 0, 0, 0, 12, 11, 0, 0, 10, 0, 0, 0, 0, 0, 0, 0, 0, 0, 0, 0, 0, 0, 38, 5, 11, 10, 13, 20, 21, 10, 10, 10, 10, 30, 30, 30, 30, 0, 0, 10, 1, 0, 0, 0, 1, 0, 0, 0, 1, 0, 0, 0, 0, 1, 2, 0, 64, 3, 0, 1, 8, 0, 56, 0, 0, 30, 0, 30, 30, 30, 10, 31, 31, 31, 31, 0, 0, 10, 18, 18, 18, 18, 0, 10, 0, 0, 10, 0, 19, 0, 0, 0, 0, 44, 1, 17, 0, 18, 50, 1, 17, 0, 62, 0, 0, 31, 0, 31, 31, 31, 0, 33, 0, 33, 0, 33, 33, 33, 35, 0, 10, 10, 35, 29, 30])
noncomputable def tgP014 : Tg := (gl g0 [1, 0, 0, 10, 10, 0, 0, 0, 0, 0, 0, 0, 0, 0, 0, 0, 0, 0, 0, 0, 0, 0, 0, 0, 0, 0, 0, 0, 0, 0, 0, 0, 0, 0, 12, 0, 12, 0, 0, 0, 0, 1, 0, 0, 0, 13, 13, 13, 13, 13, 13, 13, 0, 0, 13, 0, 0, 14, 0, 0, 13, 13, 12, 0, 0, 0, 0, 12, 0, 0, 12, 0, 12, 0, 0, 0, 12, 0, 11, 11, 11, 13, 14, 14, 0, 14, 0, 15, 0, 15, 0, 15, 0, 15, 15, 14, 15, 15, 17, 0, 10, 10, 10, 10, 0, 0, 0, 0, 10, 10, 0, 0, 0, 0, 0, 0, 19, 19, 0, 19, 0, 19, 19, 19, 0, 19, 0, 19, 19, 19, 20, 0, 20, 0, 20, 0, 20, 20, 20, 20, 20, 20, 20, 10, 10, 10, 1, 0, 0, 0, 1, 0, 0, 0, 1, 0, 0, 0, 0, 1, 2, 0, 3, 9, 0, 1, 2, 3, 4, 5, 6, 7, 8, 10, 10, 0, 0, 10, 0, 15, 0, 0, 0, 10, 0, 0, 0, 0, 0, 9, 0, 10, 12, 0, 0, 0, 12, 0, 0, 0, 12, 0, 0, 0, 0, 12, 11, 0, 0, 10, 0, 0, 0, 0, 0, 0, 0, 0, 0, 0, 0, 0, 10, 0, 21, 3, 11, 10, 13, 10, 10, 10, 0, 20, 0, 20, 0, 20, 20, 20, 20, 20, 20, 20, 10, 10, 10, 1, 0, 0, 0, 1, 0, 0, 0, 1, 0, 0, 0, 0, 1, 2, 0, 4, 9, 0, 1, 2, 3, 4, 5, 6, 7, 8, 10, 10, 0, 0, 10, 0, 16, 0, 0, 0, 10, 0, 15, 0, 0, 10, 0, 10, 12, 0, 0, 0, 12, 0, 0, 0, 12, 0, 0, 0, 0, 12, 11, 0, 0, 10, 0, 0, 0, 0, 0, 0, 0, 0, 0, 0, 0, 0, 10, 0, 22, 3, 11, 10, 13, 10, 10, 10, 0, 20, 0, 20, 0, 20, 20, 20, 20, 20, 20, 20, 10, 10, 10, 1, 0, 0, 0, 1, 0, 0, 0, 1, 0, 0, 0, 0, 1, 2, 0, 5, 9, 0, 1, 2, 3, 4, 5, 6, 7, 8, 10, 10, 0, 0, 10, 0, 17, 0, 0, 0, 10, 0, 16, 0, 0, 11, 0, 0, 10, 10, 0, 0, 0, 29, 1, 17, 0, 20, 0, 20, 0, 20, 20, 20, 20, 20, 20, 20, 10, 10, 10, 1, 0, 0, 0, 1, 0, 0, 0, 1, 0, 0, 0, 0, 1, 2, 0, 6, 9, 0, 1, 2, 3, 4, 5, 6, 7, 8, 10, 10, 0, 0, 10, 0, 18, 0, 0, 0, 10, 0, 16, 0, 0, 12, 0, 0, 10, 10, 0, 0, 0, 30, 1, 17, 0, 20, 0, 20, 0, 20, 20, 20, 20, 20, 20, 20, 10, 10, 10, 1, 0, 0, 0, 1, 0, 0, 0, 1, 0, 0, 0, 0, 1, 2, 0, 7, 9, 0, 1, 2, 3, 4, 5, 6, 7, 8, 10, 10, 0, 0, 10, 0, 19, 0, 0, 0, 10, 0, 16, 0, 0, 13, 0, 10, 12, 0, 0, 0, 12, 0, 0, 0, 12, 0, 0, 0, 0, 12, 11, 0, 0, 10, 0, 0, 0, 0, 0, 0, 0, 0, 0, 0, 0, 0, 10, 0, 25, 3, 11, 10, 13, 10, 10, 10, 0, 20, 0, 20, 0, 20, 20, 20, 20, 20, 20, 20, 10, 10, 10, 1, 0, 0, 0, 1, 0, 0, 0, 1, 0, 0, 0, 0, 1, 2, 0, 8, 9, 0, 1, 2, 3, 4, 5, 6, 7, 8, 10, 10, 0, 0, 10, 0, 20, 0, 0, 0, 10, 0, 19, 0, 0, 14, 0, 0, 10, 10, 0, 0, 0, 32, 1, 17, 0, 20, 0, 20, 0, 20, 20, 20, 25, 0, 10, 0, 0, 18, 18, 18, 0, 18, 0, 26, 26, 26, 26, 26, 18, 27, 27, 0, 27, 0, 28, 0, 28, 0, 28, 0, 28, 28, 27, 28, 28, 10, 10, 10, 1, 0, 0, 0, 1, 0, 0, 0, 1, 0, 0, 0, 0, 1, 2, 10, 0, 63, 3, 0, 1, 8, 0, 28, 0, 28, 0, 28, 28, 27, 28, 28, 10, 10, 10, 1, 0, 0, 0, 1, 0, 0, 0, 1, 0, 0, 0, 0, 1, 2, 10, 0, 63, 3, 0, 1, 8, 0, 28, 0, 28, 0, 28, 28, 27, 28, 28, 10, 10, 10, 1, 0, 0, 0, 1, 0, 0, 0, 1, 0, 0, 0, 0, 1, 2, 10, 0, 63, 3, 0, 1, 8, 0, 28, 0, 28, 0, 28, 28, 27, 28, 28, 30, 0, 10, 10, 10, 10, 10, 10, 0, 0, 0, 0, 0, 0, 33, 33, 0, 33, 0, 33, 33, 33, 0, 33, 0, 33, 33, 33, 34, 0, 34, 0, 34, 0, 34, 34, 34, 34, 34, 34, 34, 10, 10, 10, 12, 0, 0, 0, 12, 0, 0, 0, 12, 0, 0, 0, 0, 12, 11, 0, 0, 10, 0, 0, 0, 0, 0, 0, 0, 0, 0, 0, 0, 0, 0, 33, 6, 11, 10, 13, 20, 21, 22, 10, 10, 10, 10, 31, 31, 31, 31, 0, 0, 10, 0, 15, 0, 0, 31, 0, 31, 31, 31, 10, 32, 32, 32, 32, 0, 0, 10, 0, 15, 0, 0, 32, 0, 32, 32, 32, 10, 10, 10, 0, 34, 0, 34, 0, 34, 34, 34, 34, 34, 34, 34, 10, 10, 10, 12, 0, 0, 0, 12, 0, 0, 0, 12, 0, 0, 0, 0, 12, 11, 0, 0, 10, 0, 0, 0, 0, 0, 0, 0, 0, 0, 0, 0, 0, 0, 34, 6, 11, 10, 13, 20, 21, 22, 10, 10, 10, 10, 31, 31, 31, 31, 0, 0, 10, 0, 16, 0, 0, 31, 0, 31, 31, 31, 10, 32, 32, 32, 32, 0, 0, 10, 0, 16, 0, 0, 32, 0, 32, 32, 32, 10, 10, 10, 0, 34, 0, 34, 0, 34, 34, 34, 34, 34, 34, 34, 10, 10, 10, 12, 0, 0, 0, 12, 0, 0, 0, 12, 0, 0, 0, 0, 12, 11, 0, 0, 10, 0, 0, 0, 0, 0, 0, 0, 0, 0, 0, 0, 0, 0, 35, 6, 11, 10, 13, 20, 21, 22, 10, 10, 10, 10, 31, 31, 31, 31, 0, 0, 10, 1, 0, 0, 0, 1, 0, 0, 0, 1, 0, 0, 0, 0, 1, 2, 0, 64, 3, 0, 1, 8, 0, 53, 0, 0, 31, 0, 31, 31, 31, 10, 32, 32, 32, 32, 0, 0, 10, 18, 18, 18, 18, 0, 10, 0, 0, 10, 0, 16, 0, 0, 0, 0, 41, 1, 17, 0, 18, 47, 1, 17, 0, 59, 0, 0, 32, 0, 32, 32, 32, 0, 34, 0, 34, 0, 34, 34, 34, 34, 34, 34, 34, 10, 10, 10, 12, 0, 0, 0, 12, 0, 0, 0, 12, 0, 0, 0, 0, 12, 11, 0, 0, 10, 0, 0, 0, 0, 0, 0, 0, 0, 0, 0, 0, 0, 0, 36, 6, 11, 10, 13, 20, 21, 22, 10, 10, 10, 10, 31, 31, 31, 31, 0, 0, 10, 1, 0, 0, 0, 1, 0, 0, 0, 1, 0, 0, 0, 0, 1, 2, 0, 64, 3, 0, 1, 8, 0, 54, 0, 0, 31, 0, 31, 31, 31, 10, 32, 32, 32, 32, 0, 0, 10, 18, 18, 18, 18, 0, 10, 0, 0, 10, 0, 16, 0, 0, 0, 0, 42, 1, 17, 0, 18, 48, 1, 17, 0, 60, 0, 0, 32, 0, 32, 32, 32, 0, 34, 0, 34, 0, 34, 34, 34, 34, 34, 34, 34, 10, 10, 10, 12, 0, 0, 0, 12, 0, 0, 0, 12, 0, 0, 0, 0, 12, 11, 0, 0, 10, 0, 0, 0, 0, 0, 0, 0, 0, 0, 0, 0, 0, 0, 37, 6, 11, 10, 13, 20, 21, 22, 10, 10, 10, 10, 31, 31, 31, 31, 0, 0, 10, 0, 19, 0, 0, 31, 0, 31, 31, 31, 10, 32, 32, 32, 32, 0, 0, 10, 0, 19, 0, 0, 32, 0, 32, 32, 32, 10, 10, 10, 0, 34, 0, 34, 0, 34, 34, 34, 34, 34, 34, 34, 10, 10, 10, 12, 0, 0, 0, 12, 0, 0, 0, 12, 0, 0, 0, 0, 12, 11, 0, 0, 10, 0, 0, 0, 0, 0, 0, 0, 0, 0, 0, 0, 0, 0, 38, 6, 11, 10, 13, 20, 21, 22, 10, 10, 10, 10, 31, 31, 31, 31, 0, 0, 10, 1, 0, 0, 0, 1, 0, 0, 0, 1, 0, 0, 0, 0, 1, 2, 0, 64, 3, 0, 1, 8, 0, 56, 0, 0, 31, 0, 31, 31, 31, 10, 32, 32, 32, 32, 0, 0, 10, 18, 18, 18, 18, 0, 10, 0, 0, 10, 0, 19, 0, 0, 0, 0, 44, 1, 17, 0, 18, 50, 1, 17, 0, 62, 0, 0, 32, 0, 32, 32, 32, 0, 34, 0, 34, 0, 34, 34, 34, 36, 0, 10, 10, 36, 30, 31])
noncomputable def tgP024 : Tg := (gl g0 [1, 0, 0, 10, 10, 0, 0, 0, 0, 0, 0, 0, 0, 0, 0, 0, 0, 0, 0, 0, 0, 0, 0, 0, 0, 0, 0, 0, 0, 0, 0, 0, 0, 0, 12, 0, 12, 0, 0, 0, 0, 1, 0, 0, 0, 13, 13, 13, 13, 13, 13, 13, 0, 0, 13, 0, 0, 14, 0, 0, 13, 13, 12, 0, 0, 0, 0, 12, 0, 0, 12, 0, 12, 0, 0, 0, 12, 0, 11, 11, 11, 13, 14, 14, 0, 14, 0, 15, 0, 15, 0, 15, 0, 15, 15, 14, 15, 15, 17, 0, 10, 10, 10, 10, 0, 0, 0, 0, 10, 10, 0, 0, 0, 0, 0, 0, 19, 19, 0, 19, 0, 19, 19, 19, 0, 19, 0, 19, 19, 19, 20, 0, 20, 0, 20, 0, 20, 20, 20, 20, 20, 20, 20, 10, 10, 10, 1, 0, 0, 0, 1, 0, 0, 0, 1, 0, 0, 0, 0, 1, 2, 0, 3, 9, 0, 1, 2, 3, 4, 5, 6, 7, 8, 10, 10, 0, 0, 10, 0, 15, 0, 0, 0, 10, 0, 0, 0, 0, 0, 9, 0, 10, 12, 0, 0, 0, 12, 0, 0, 0, 12, 0, 0, 0, 0, 12, 11, 0, 0, 10, 0, 0, 0, 0, 0, 0, 0, 0, 0, 0, 0, 0, 10, 0, 21, 3, 11, 10, 13, 10, 10, 10, 0, 20, 0, 20, 0, 20, 20, 20, 20, 20, 20, 20, 10, 10, 10, 1, 0, 0, 0, 1, 0, 0, 0, 1, 0, 0, 0, 0, 1, 2, 0, 4, 9, 0, 1, 2, 3, 4, 5, 6, 7, 8, 10, 10, 0, 0, 10, 0, 16, 0, 0, 0, 10, 0, 15, 0, 0, 10, 0, 0, 10, 10, 0, 0, 0, 28, 1, 17, 0, 20, 0, 20, 0, 20, 20, 20, 20, 20, 20, 20, 10, 10, 10, 1, 0, 0, 0, 1, 0, 0, 0, 1, 0, 0, 0, 0, 1, 2, 0, 5, 9, 0, 1, 2, 3, 4, 5, 6, 7, 8, 10, 10, 0, 0, 10, 0, 17, 0, 0, 0, 10, 0, 15, 0, 0, 11, 0, 10, 12, 0, 0, 0, 12, 0, 0, 0, 12, 0, 0, 0, 0, 12, 11, 0, 0, 10, 0, 0, 0, 0, 0, 0, 0, 0, 0, 0, 0, 0, 10, 0, 23, 3, 11, 10, 13, 10, 10, 10, 0, 20, 0, 20, 0, 20, 20, 20, 20, 20, 20, 20, 10, 10, 10, 1, 0, 0, 0, 1, 0, 0, 0, 1, 0, 0, 0, 0, 1, 2, 0, 6, 9, 0, 1, 2, 3, 4, 5, 6, 7, 8, 10, 10, 0, 0, 10, 0, 18, 0, 0, 0, 10, 0, 17, 0, 0, 12, 0, 0, 10, 10, 0, 0, 0, 30, 1, 17, 0, 20, 0, 20, 0, 20, 20, 20, 20, 20, 20, 20, 10, 10, 10, 1, 0, 0, 0, 1, 0, 0, 0, 1, 0, 0, 0, 0, 1, 2, 0, 7, 9, 0, 1, 2, 3, 4, 5, 6, 7, 8, 10, 10, 0, 0, 10, 0, 19, 0, 0, 0, 10, 0, 17, 0, 0, 13, 0, 10, 12, 0, 0, 0, 12, 0, 0, 0, 12, 0, 0, 0, 0, 12, 11, 0, 0, 10, 0, 0, 0, 0, 0, 0, 0, 0, 0, 0, 0, 0, 10, 0, 25, 3, 11, 10, 13, 10, 10, 10, 0, 20, 0, 20, 0, 20, 20, 20, 20, 20, 20, 20, 10, 10, 10, 1, 0, 0, 0, 1, 0, 0, 0, 1, 0, 0, 0, 0, 1, 2, 0, 8, 9, 0, 1, 2, 3, 4, 5, 6, 7, 8, 10, 10, 0, 0, 10, 0, 20, 0, 0, 0, 10, 0, 19, 0, 0, 14, 0, 0, 10, 10, 0, 0, 0, 32, 1, 17, 0, 20, 0, 20, 0, 20, 20, 20, 25, 0, 10, 0, 0, 18, 18, 18, 0, 18, 0, 26, 26, 26, 26, 26, 18, 27, 27, 0, 27, 0, 28, 0, 28, 0, 28, 0, 28, 28, 27, 28, 28, 10, 10, 10, 1, 0, 0, 0, 1, 0, 0, 0, 1, 0, 0, 0, 0, 1, 2, 10, 0, 63, 3, 0, 1, 8, 0, 28, 0, 28, 0, 28, 28, 27, 28, 28, 10, 10, 10, 1, 0, 0, 0, 1, 0, 0, 0, 1, 0, 0, 0, 0, 1, 2, 10, 0, 63, 3, 0, 1, 8, 0, 28, 0, 28, 0, 28, 28, 27, 28, 28, 10, 10, 10, 1, 0, 0, 0, 1, 0, 0, 0, 1, 0, 0, 0, 0, 1, 2, 10, 0, 63, 3, 0, 1, 8, 0, 28, 0, 28, 0, 28, 28, 27, 28, 28, 30, 0, 10, 10, 10, 10, 10, 10, 0, 0, 0, 0, 0, 0, 33, 33, 0, 33, 0, 33, 33, 33, 0, 33, 0, 33, 33, 33, 34, 0, 34, 0, 34, 0, 34, 34, 34, 34, 34, 34, 34, 10, 10, 10, 12, 0, 0, 0, 12, 0, 0, 0, 12, 0, 0, 0, 0, 12, 11, 0, 0, 10, 0, 0, 0, 0, 0, 0, 0, 0, 0, 0, 0, 0, 0, 33, 6, 11, 10, 13, 20, 21, 22, 10, 10, 10, 10, 31, 31, 31, 31, 0, 0, 10, 0, 15, 0, 0, 31, 0, 31, 31, 31, 10, 32, 32, 32, 32, 0, 0, 10, 0, 15, 0, 0, 32, 0, 32, 32, 32, 10, 10, 10, 0, 34, 0, 34, 0, 34, 34, 34, 34, 34, 34, 34, 10, 10, 10, 12, 0, 0, 0, 12, 0, 0, 0, 12, 0, 0, 0, 0, 12, 11, 0, 0, 10, 0, 0, 0, 0, 0, 0, 0, 0, 0, 0, 0, 0, 0, 34, 6, 11, 10, 13, 20, 21, 22, 10, 10, 10, 10, 31, 31, 31, 31, 0, 0, 10, 1, 0, 0, 0, 1, 0, 0, 0, 1, 0, 0, 0, 0, 1, 2, 0, 64, 3, 0, 1, 8, 0, 52, 0, 0, 31, 0, 31, 31, 31, 10, 32, 32, 32, 32, 0, 0, 10, 18, 18, 18, 18, 0, 10, 0, 0, 10, 0, 15, 0, 0, 0, 0, 40, 1, 17, 0, 18, 46, 1, 17, 0, 58, 0, 0, 32, 0, 32, 32, 32, 0, 34, 0, 34, 0, 34, 34, 34, 34, 34, 34, 34, 10, 10, 10, 12, 0, 0, 0, 12, 0, 0, 0, 12, 0, 0, 0, 0, 12, 11, 0, 0, 10, 0, 0, 0, 0, 0, 0, 0, 0, 0, 0, 0, 0, 0, 35, 6, 11, 10, 13, 20, 21, 22, 10, 10, 10, 10, 31, 31, 31, 31, 0, 0, 10, 0, 17, 0, 0, 31, 0, 31, 31, 31, 10, 32, 32, 32, 32, 0, 0, 10, 0, 17, 0, 0, 32, 0, 32, 32, 32, 10, 10, 10, 0, 34, 0, 34, 0, 34, 34, 34, 34, 34, 34, 34, 10, 10, 10, 12, 0, 0, 0, 12, 0, 0, 0, 12, 0, 0, 0, 0, 12, 11, 0, 0, 10, 0, 0, 0, 0, 0, 0, 0, 0, 0, 0, 0, 0, 0, 36, 6, 11, 10, 13, 20, 21, 22, 10, 10, 10, 10, 31, 31, 31, 31, 0, 0, 10, 1, 0, 0, 0, 1, 0, 0, 0, 1, 0, 0, 0, 0, 1, 2, 0, 64, 3, 0, 1, 8, 0, 54, 0, 0, 31, 0, 31, 31, 31, 10, 32, 32, 32, 32, 0, 0, 10, 18, 18, 18, 18, 0, 10, 0, 0, 10, 0, 17, 0, 0, 0, 0, 42, 1, 17, 0, 18, 48, 1, 17, 0, 60, 0, 0, 32, 0, 32, 32, 32, 0, 34, 0, 34, 0, 34, 34, 34, 34, 34, 34, 34, 10, 10, 10, 12, 0, 0, 0, 12, 0, 0, 0, 12, 0, 0, 0, 0, 12, 11, 0, 0, 10, 0, 0, 0, 0, 0, 0, 0, 0, 0, 0, 0, 0, 0, 37, 6, 11, 10, 13, 20, 21, 22, 10, 10, 10, 10, 31, 31, 31, 31, 0, 0, 10, 0, 19, 0, 0, 31, 0, 31, 31, 31, 10, 32, 32, 32, 32, 0, 0, 10, 0, 19, 0, 0, 32, 0, 32, 32, 32, 10, 10, 10, 0, 34, 0, 34, 0, 34, 34, 34, 34, 34, 34, 34, 10, 10, 10, 12, 0, 0, 0, 12, 0, 0, 0, 12, 0, 0, 0, 0, 12, 11, 0, 0, 10, 0, 0, 0, 0, 0, 0, 0, 0, 0, 0, 0, 0, 0, 38, 6, 11, 10, 13, 20, 21, 22, 10, 10, 10, 10, 31, 31, 31, 31, 0, 0, 10, 1, 0, 0, 0, 1, 0, 0, 0, 1, 0, 0, 0, 0, 1, 2, 0, 64, 3, 0, 1, 8, 0, 56, 0, 0, 31, 0, 31, 31, 31, 10, 32, 32, 32, 32, 0, 0, 10, 18, 18, 18, 18, 0, 10, 0, 0, 10, 0, 19, 0, 0, 0, 0, 44, 1, 17, 0, 18, 50, 1, 17, 0, 62, 0, 0, 32, 0, 32, 32, 32, 0, 34, 0, 34, 0, 34, 34, 34, 36, 0, 10, 10, 36, 30, 31])
noncomputable def tgP0124 : Tg := (gl g0 [1, 0, 0, 10, 10, 0, 0, 0, 0, 0, 0, 0, 0, 0, 0, 0, 0, 0, 0, 0, 0, 0, 0, 0, 0, 0, 0, 0, 0, 0, 0, 0, 0, 0, 12, 0, 12, 0, 0, 0, 0, 1, 0, 0, 0, 13, 13, 13, 13, 13, 13, 13, 0, 0, 13, 0, 0, 14, 0, 0, 13, 13, 12, 0, 0, 0, 0, 12, 0, 0, 12, 0, 12, 0, 0, 0, 12, 0, 11, 11, 11, 13, 14, 14, 0, 14, 0, 15, 0, 15, 0, 15, 0, 15, 15, 14, 15, 15, 17, 0, 10, 10, 10, 10, 0, 0, 0, 0, 10, 10, 0, 0, 0, 0, 0, 0, 19, 19, 0, 19, 0, 19, 19, 19, 0, 19, 0, 19, 19, 19, 20, 0, 20, 0, 20, 0, 20, 20, 20, 20, 20, 20, 20, 10, 10, 10, 1, 0, 0, 0, 1, 0, 0, 0, 1, 0, 0, 0, 0, 1, 2, 0, 3, 9, 0, 1, 2, 3, 4, 5, 6, 7, 8, 10, 10, 0, 0, 10, 0, 15, 0, 0, 0, 10, 0, 0, 0, 0, 0, 9, 0, 10, 12, 0, 0, 0, 12, 0, 0, 0, 12, 0, 0, 0, 0, 12, 11, 0, 0, 10, 0, 0, 0, 0, 0, 0, 0, 0, 0, 0, 0, 0, 10, 0, 21, 3, 11, 10, 13, 10, 10, 10, 0, 20, 0, 20, 0, 20, 20, 20, 20, 20, 20, 20, 10, 10, 10, 1, 0, 0, 0, 1, 0, 0, 0, 1, 0, 0, 0, 0, 1, 2, 0, 4, 9, 0, 1, 2, 3, 4, 5, 6, 7, 8, 10, 10, 0, 0, 10, 0, 16, 0, 0, 0, 10, 0, 15, 0, 0, 10, 0, 10, 12, 0, 0, 0, 12, 0, 0, 0, 12, 0, 0, 0, 0, 12, 11, 0, 0, 10, 0, 0, 0, 0, 0, 0, 0, 0, 0, 0, 0, 0, 10, 0, 22, 3, 11, 10, 13, 10, 10, 10, 0, 20, 0, 20, 0, 20, 20, 20, 20, 20, 20, 20, 10, 10, 10, 1, 0, 0, 0, 1, 0, 0, 0, 1, 0, 0, 0, 0, 1, 2, 0, 5, 9, 0, 1, 2, 3, 4, 5, 6, 7, 8, 10, 10, 0, 0, 10, 0, 17, 0, 0, 0, 10, 0, 16, 0, 0, 11, 0, 10, 12, 0, 0, 0, 12, 0, 0, 0, 12, 0, 0, 0, 0, 12, 11, 0, 0, 10, 0, 0, 0, 0, 0, 0, 0, 0, 0, 0, 0, 0, 10, 0, 23, 3, 11, 10, 13, 10, 10, 10, 0, 20, 0, 20, 0, 20, 20, 20, 20, 20, 20, 20, 10, 10, 10, 1, 0, 0, 0, 1, 0, 0, 0, 1, 0, 0, 0, 0, 1, 2, 0, 6, 9, 0, 1, 2, 3, 4, 5, 6, 7, 8, 10, 10, 0, 0, 10, 0, 18, 0, 0, 0, 10, 0, 17, 0, 0, 12, 0, 0, 10, 10, 0, 0, 0, 30, 1, 17, 0, 20, 0, 20, 0, 20, 20, 20, 20, 20, 20, 20, 10, 10, 10, 1, 0, 0, 0, 1, 0, 0, 0, 1, 0, 0, 0, 0, 1, 2, 0, 7, 9, 0, 1, 2, 3, 4, 5, 6, 7, 8, 10, 10, 0, 0, 10, 0, 19, 0, 0, 0, 10, 0, 17, 0, 0, 13, 0, 10, 12, 0, 0, 0, 12, 0, 0, 0, 12, 0, 0, 0, 0, 12, 11, 0, 0, 10, 0, 0, 0, 0, 0, 0, 0, 0, 0, 0, 0, 0, 10, 0, 25, 3, 11, 10, 13, 10, 10, 10, 0, 20, 0, 20, 0, 20, 20, 20, 20, 20, 20, 20, 10, 10, 10, 1, 0, 0, 0, 1, 0, 0, 0, 1, 0, 0, 0, 0, 1, 2, 0, 8, 9, 0, 1, 2, 3, 4, 5, 6, 7, 8, 10, 10, 0, 0, 10, 0, 20, 0, 0, 0, 10, 0, 19, 0, 0, 14, 0, 0, 10, 10, 0, 0, 0, 32, 1, 17, 0, 20, 0, 20, 0, 20, 20, 20, 26, 0, 10, 0, 0, 18, 18, 18, 0, 18, 0, 27, 27, 27, 27, 27, 18, 28, 28, 0, 28, 0, 29, 0, 29, 0, 29, 0, 29, 29, 28, 29, 29, 10, 10, 10, 1, 0, 0, 0, 1, 0, 0, 0, 1, 0, 0, 0, 0, 1, 2, 10, 0, 63, 3, 0, 1, 8, 0, 29, 0, 29, 0, 29, 29, 28, 29, 29, 10, 10, 10, 1, 0, 0, 0, 1, 0, 0, 0, 1, 0, 0, 0, 0, 1, 2, 10, 0, 63, 3, 0, 1, 8, 0, 29, 0, 29, 0, 29, 29, 28, 29, 29, 31, 0, 10, 10, 10, 10, 10, 10, 0, 0, 0, 0, 0, 0, 34, 34, 0, 34, 0, 34, 34, 34, 0, 34, 0, 34, 34, 34, 35, 0, 35, 0, 35, 0, 35, 35, 35, 35, 35, 35, 35, 10, 10, 10, 12, 0, 0, 0, 12, 0, 0, 0, 12, 0, 0, 0, 0, 12, 11, 0, 0, 10, 0, 0, 0, 0, 0, 0, 0, 0, 0, 0, 0, 0, 0, 33, 7, 11, 10, 13, 20, 21, 22, 23, 10, 10, 10, 10, 32, 32, 32, 32, 0, 0, 10, 0, 15, 0, 0, 32, 0, 32, 32, 32, 10, 33, 33, 33, 33, 0, 0, 10, 0, 15, 0, 0, 33, 0, 33, 33, 33, 10, 10, 10, 0, 35, 0, 35, 0, 35, 35, 35, 35, 35, 35, 35, 10, 10, 10, 12, 0, 0, 0, 12, 0, 0, 0, 12, 0, 0, 0, 0, 12, 11, 0, 0, 10, 0, 0, 0, 0, 0, 0, 0, 0, 0, 0, 0, 0, 0, 34, 7, 11, 10, 13, 20, 21, 22, 23, 10, 10, 10, 10, 32, 32, 32, 32, 0, 0, 10, 0, 16, 0, 0, 32, 0, 32, 32, 32, 10, 33, 33, 33, 33, 0, 0, 10, 0, 16, 0, 0, 33, 0, 33, 33, 33, 10, 10, 10, 0, 35, 0, 35, 0, 35, 35, 35, 35, 35, 35, 35, 10, 10, 10, 12, 0, 0, 0, 12, 0, 0, 0, 12, 0, 0, 0, 0, 12, 11, 0, 0, 10, 0, 0, 0, 0, 0, 0, 0, 0, 0, 0, 0, 0, 0, 35, 7, 11, 10, 13, 20, 21, 22, 23, 10, 10, 10, 10, 32, 32, 32, 32, 0, 0, 10, 0, 17, 0, 0, 32, 0, 32, 32, 32, 10, 33, 33, 33, 33, 0, 0, 10, 0, 17, 0, 0, 33, 0, 33, 33, 33, 10, 10, 10, 0, 35, 0, 35, 0, 35, 35, 35, 35, 35, 35, 35, 10, 10, 10, 12, 0, 0, 0, 12, 0, 0, 0, 12, 0, 0, 0, 0, 12, 11, 0, 0, 10, 0, 0, 0, 0, 0, 0, 0, 0, 0, 0, 0, 0, 0, 36, 7, 11, 10, 13, 20, 21, 22, 23, 10, 10, 10, 10, 32, 32, 32, 32, 0, 0, 10, 1, 0, 0, 0, 1, 0, 0, 0, 1, 0, 0, 0, 0, 1, 2, 0, 64, 3, 0, 1, 8, 0, 54, 0, 0, 32, 0, 32, 32, 32, 10, 33, 33, 33, 33, 0, 0, 10, 18, 18, 18, 18, 0, 10, 0, 0, 10, 0, 17, 0, 0, 0, 0, 42, 1, 17, 0, 18, 48, 1, 17, 0, 60, 0, 0, 33, 0, 33, 33, 33, 0, 35, 0, 35, 0, 35, 35, 35, 35, 35, 35, 35, 10, 10, 10, 12, 0, 0, 0, 12, 0, 0, 0, 12, 0, 0, 0, 0, 12, 11, 0, 0, 10, 0, 0, 0, 0, 0, 0, 0, 0, 0, 0, 0, 0, 0, 37, 7, 11, 10, 13, 20, 21, 22, 23, 10, 10, 10, 10, 32, 32, 32, 32, 0, 0, 10, 0, 19, 0, 0, 32, 0, 32, 32, 32, 10, 33, 33, 33, 33, 0, 0, 10, 0, 19, 0, 0, 33, 0, 33, 33, 33, 10, 10, 10, 0, 35, 0, 35, 0, 35, 35, 35, 35, 35, 35, 35, 10, 10, 10, 12, 0, 0, 0, 12, 0, 0, 0, 12, 0, 0, 0, 0, 12, 11, 0, 0, 10, 0, 0, 0, 0, 0, 0, 0, 0, 0, 0, 0, 0, 0, 38, 7, 11, 10, 13, 20, 21, 22, 23, 10, 10, 10, 10, 32, 32, 32, 32, 0, 0, 10, 1, 0, 0, 0, 1, 0, 0, 0, 1, 0, 0, 0, 0, 1, 2, 0, 64, 3, 0, 1, 8, 0, 56, 0, 0, 32, 0, 32, 32, 32, 10, 33, 33, 33, 33, 0, 0, 10, 18, 18, 18, 18, 0, 10, 0, 0, 10, 0, 19, 0, 0, 0, 0, 44, 1, 17, 0, 18, 50, 1, 17, 0, 62, 0, 0, 33, 0, 33, 33, 33, 0, 35, 0, 35, 0, 35, 35, 35, 37, 0, 10, 10, 37, 31, 32])
noncomputable def tgP034 : Tg := (gl g0 [1, 0, 0, 10, 10, 0, 0, 0, 0, 0, 0, 0, 0, 0, 0, 0, 0, 0, 0, 0, 0, 0, 0, 0, 0, 0, 0, 0, 0, 0, 0, 0, 0, 0, 12, 0, 12, 0, 0, 0, 0, 1, 0, 0, 0, 13, 13, 13, 13, 13, 13, 13, 0, 0, 13, 0, 0, 14, 0, 0, 13, 13, 12, 0, 0, 0, 0, 12, 0, 0, 12, 0, 12, 0, 0, 0, 12, 0, 11, 11, 11, 13, 14, 14, 0, 14, 0, 15, 0, 15, 0, 15, 0, 15, 15, 14, 15, 15, 17, 0, 10, 10, 10, 10, 0, 0, 0, 0, 10, 10, 0, 0, 0, 0, 0, 0, 19, 19, 0, 19, 0, 19, 19, 19, 0, 19, 0, 19, 19, 19, 20, 0, 20, 0, 20, 0, 20, 20, 20, 20, 20, 20, 20, 10, 10, 10, 1, 0, 0, 0, 1, 0, 0, 0, 1, 0, 0, 0, 0, 1, 2, 0, 3, 9, 0, 1, 2, 3, 4, 5, 6, 7, 8, 10, 10, 0, 0, 10, 0, 15, 0, 0, 0, 10, 0, 0, 0, 0, 0, 9, 0, 10, 12, 0, 0, 0, 12, 0, 0, 0, 12, 0, 0, 0, 0, 12, 11, 0, 0, 10, 0, 0, 0, 0, 0, 0, 0, 0, 0, 0, 0, 0, 10, 0, 21, 3, 11, 10, 13, 10, 10, 10, 0, 20, 0, 20, 0, 20, 20, 20, 20, 20, 20, 20, 10, 10, 10, 1, 0, 0, 0, 1, 0, 0, 0, 1, 0, 0, 0, 0, 1, 2, 0, 4, 9, 0, 1, 2, 3, 4, 5, 6, 7, 8, 10, 10, 0, 0, 10, 0, 16, 0, 0, 0, 10, 0, 15, 0, 0, 10, 0, 0, 10, 10, 0, 0, 0, 28, 1, 17, 0, 20, 0, 20, 0, 20, 20, 20, 20, 20, 20, 20, 10, 10, 10, 1, 0, 0, 0, 1, 0, 0, 0, 1, 0, 0, 0, 0, 1, 2, 0, 5, 9, 0, 1, 2, 3, 4, 5, 6, 7, 8, 10, 10, 0, 0, 10, 0, 17, 0, 0, 0, 10, 0, 15, 0, 0, 11, 0, 0, 10, 10, 0, 0, 0, 29, 1, 17, 0, 20, 0, 20, 0, 20, 20, 20, 20, 20, 20, 20, 10, 10, 10, 1, 0, 0, 0, 1, 0, 0, 0, 1, 0, 0, 0, 0, 1, 2, 0, 6, 9, 0, 1, 2, 3, 4, 5, 6, 7, 8, 10, 10, 0, 0, 10, 0, 18, 0, 0, 0, 10, 0, 15, 0, 0, 12, 0, 10, 12, 0, 0, 0, 12, 0, 0, 0, 12, 0, 0, 0, 0, 12, 11, 0, 0, 10, 0, 0, 0, 0, 0, 0, 0, 0, 0, 0, 0, 0, 10, 0, 24, 3, 11, 10, 13, 10, 10, 10, 0, 20, 0, 20, 0, 20, 20, 20, 20, 20, 20, 20, 10, 10, 10, 1, 0, 0, 0, 1, 0, 0, 0, 1, 0, 0, 0, 0, 1, 2, 0, 7, 9, 0, 1, 2, 3, 4, 5, 6, 7, 8, 10, 10, 0, 0, 10, 0, 19, 0, 0, 0, 10, 0, 18, 0, 0, 13, 0, 10, 12, 0, 0, 0, 12, 0, 0, 0, 12, 0, 0, 0, 0, 12, 11, 0, 0, 10, 0, 0, 0, 0, 0, 0, 0, 0, 0, 0, 0, 0, 10, 0, 25, 3, 11, 10, 13, 10, 10, 10, 0, 20, 0, 20, 0, 20, 20, 20, 20, 20, 20, 20, 10, 10, 10, 1, 0, 0, 0, 1, 0, 0, 0, 1, 0, 0, 0, 0, 1, 2, 0, 8, 9, 0, 1, 2, 3, 4, 5, 6, 7, 8, 10, 10, 0, 0, 10, 0, 20, 0, 0, 0, 10, 0, 19, 0, 0, 14, 0, 0, 10, 10, 0, 0, 0, 32, 1, 17, 0, 20, 0, 20, 0, 20, 20, 20, 25, 0, 10, 0, 0, 18, 18, 18, 0, 18, 0, 26, 26, 26, 26, 26, 18, 27, 27, 0, 27, 0, 28, 0, 28, 0, 28, 0, 28, 28, 27, 28, 28, 10, 10, 10, 1, 0, 0, 0, 1, 0, 0, 0, 1, 0, 0, 0, 0, 1, 2, 10, 0, 63, 3, 0, 1, 8, 0, 28, 0, 28, 0, 28, 28, 27, 28, 28, 10, 10, 10, 1, 0, 0, 0, 1, 0, 0, 0, 1, 0, 0, 0, 0, 1, 2, 10, 0, 63, 3, 0, 1, 8, 0, 28, 0, 28, 0, 28, 28, 27, 28, 28, 10, 10, 10, 1, 0, 0, 0, 1, 0, 0, 0, 1, 0, 0, 0, 0, 1, 2, 10, 0, 63, 3, 0, 1, 8, 0, 28, 0, 28, 0, 28, 28, 27, 28, 28, 30, 0, 10, 10, 10, 10, 10, 10, 0, 0, 0, 0, 0, 0, 33, 33, 0, 33, 0, 33, 33, 33, 0, 33, 0, 33, 33, 33, 34, 0, 34, 0, 34, 0, 34, 34, 34, 34, 34, 34, 34, 10, 10, 10, 12, 0, 0, 0, 12, 0, 0, 0, 12, 0, 0, 0, 0, 12, 11, 0, 0, 10, 0, 0, 0, 0, 0, 0, 0, 0, 0, 0, 0, 0, 0, 33, 6, 11, 10, 13, 20, 21, 22, 10, 10, 10, 10, 31, 31, 31, 31, 0, 0, 10, 0, 15, 0, 0, 31, 0, 31, 31, 31, 10, 32, 32, 32, 32, 0, 0, 10, 0, 15, 0, 0, 32, 0, 32, 32, 32, 10, 10, 10, 0, 34, 0, 34, 0, 34, 34, 34, 34, 34, 34, 34, 10, 10, 10, 12, 0, 0, 0, 12, 0, 0, 0, 12, 0, 0, 0, 0, 12, 11, 0, 0, 10, 0, 0, 0, 0, 0, 0, 0, 0, 0, 0, 0, 0, 0, 34, 6, 11, 10, 13, 20, 21, 22, 10, 10, 10, 10, 31, 31, 31, 31, 0, 0, 10, 1, 0, 0, 0, 1, 0, 0, 0, 1, 0, 0, 0, 0, 1, 2, 0, 64, 3, 0, 1, 8, 0, 52, 0, 0, 31, 0, 31, 31, 31, 10, 32, 32, 32, 32, 0, 0, 10, 18, 18, 18, 18, 0, 10, 0, 0, 10, 0, 15, 0, 0, 0, 0, 40, 1, 17, 0, 18, 46, 1, 17, 0, 58, 0, 0, 32, 0, 32, 32, 32, 0, 34, 0, 34, 0, 34, 34, 34, 34, 34, 34, 34, 10, 10, 10, 12, 0, 0, 0, 12, 0, 0, 0, 12, 0, 0, 0, 0, 12, 11, 0, 0, 10, 0, 0, 0, 0, 0, 0, 0, 0, 0, 0, 0, 0, 0, 35, 6, 11, 10, 13, 20, 21, 22, 10, 10, 10, 10, 31, 31, 31, 31, 0, 0, 10, 1, 0, 0, 0, 1, 0, 0, 0, 1, 0, 0, 0, 0, 1, 2, 0, 64, 3, 0, 1, 8, 0, 53, 0, 0, 31, 0, 31, 31, 31, 10, 32, 32, 32, 32, 0, 0, 10, 18, 18, 18, 18, 0, 10, 0, 0, 10, 0, 15, 0, 0, 0, 0, 41, 1, 17, 0, 18, 47, 1, 17, 0, 59, 0, 0, 32, 0, 32, 32, 32, 0, 34, 0, 34, 0, 34, 34, 34, 34, 34, 34, 34, 10, 10, 10, 12, 0, 0, 0, 12, 0, 0, 0, 12, 0, 0, 0, 0, 12, 11, 0, 0, 10, 0, 0, 0, 0, 0, 0, 0, 0, 0, 0, 0, 0, 0, 36, 6, 11, 10, 13, 20, 21, 22, 10, 10, 10, 10, 31, 31, 31, 31, 0, 0, 10, 0, 18, 0, 0, 31, 0, 31, 31, 31, 10, 32, 32, 32, 32, 0, 0, 10, 0, 18, 0, 0, 32, 0, 32, 32, 32, 10, 10, 10, 0, 34, 0, 34, 0, 34, 34, 34, 34, 34, 34, 34, 10, 10, 10, 12, 0, 0, 0, 12, 0, 0, 0, 12, 0, 0, 0, 0, 12, 11, 0, 0, 10, 0, 0, 0, 0, 0, 0, 0, 0, 0, 0, 0, 0, 0, 37, 6, 11, 10, 13, 20, 21, 22, 10, 10, 10, 10, 31, 31, 31, 31, 0, 0, 10, 0, 19, 0, 0, 31, 0, 31, 31, 31, 10, 32, 32, 32, 32, 0, 0, 10, 0, 19, 0, 0, 32, 0, 32, 32, 32, 10, 10, 10, 0, 34, 0, 34, 0, 34, 34, 34, 34, 34, 34, 34, 10, 10, 10, 12, 0, 0, 0, 12, 0, 0, 0, 12, 0, 0, 0, 0, 12, 11, 0, 0, 10, 0, 0, 0, 0, 0, 0, 0, 0, 0, 0, 0, 0, 0, 38, 6, 11, 10, 13, 20, 21, 22, 10, 10, 10, 10, 31, 31, 31, 31, 0, 0, 10, 1, 0, 0, 0, 1, 0, 0, 0, 1, 0, 0, 0, 0, 1, 2, 0, 64, 3, 0, 1, 8, 0, 56, 0, 0, 31, 0, 31, 31, 31, 10, 32, 32, 32, 32, 0, 0, 10, 18, 18, 18, 18, 0, 10, 0, 0, 10, 0, 19, 0, 0, 0, 0, 44, 1, 17, 0, 18, 50, 1, 17, 0, 62, 0, 0, 32, 0, 32, 32, 32, 0, 34, 0, 34, 0, 34, 34, 34, 36, 0, 10, 10, 36, 30, 31])
noncomputable def tgP0134 : Tg := (gl g0 [1, 0, 0, 10, 10, 0, 0, 0, 0, 0, 0, 0, 0, 0, 0, 0, 0, 0, 0, 0, 0, 0, 0, 0, 0, 0, 0, 0, 0, 0, 0, 0, 0, 0, 12, 0, 12, 0, 0, 0, 0, 1, 0, 0, 0, 13, 13, 13, 13, 13, 13, 13, 0, 0, 13, 0, 0, 14, 0, 0, 13, 13, 12, 0, 0, 0, 0, 12, 0, 0, 12, 0, 12, 0, 0, 0, 12, 0, 11, 11, 11, 13, 14, 14, 0, 14, 0, 15, 0, 15, 0, 15, 0, 15, 15, 14, 15, 15, 17, 0, 10, 10, 10, 10, 0, 0, 0, 0, 10, 10, 0, 0, 0, 0, 0, 0, 19, 19, 0, 19, 0, 19, 19, 19, 0, 19, 0, 19, 19, 19, 20, 0, 20, 0, 20, 0, 20, 20, 20, 20, 20, 20, 20, 10, 10, 10, 1, 0, 0, 0, 1, 0, 0, 0, 1, 0, 0, 0, 0, 1, 2, 0, 3, 9, 0, 1, 2, 3, 4, 5, 6, 7, 8, 10, 10, 0, 0, 10, 0, 15, 0, 0, 0, 10, 0, 0, 0, 0, 0, 9, 0, 10, 12, 0, 0, 0, 12, 0, 0, 0, 12, 0, 0, 0, 0, 12, 11, 0, 0, 10, 0, 0, 0, 0, 0, 0, 0, 0, 0, 0, 0, 0, 10, 0, 21, 3, 11, 10, 13, 10, 10, 10, 0, 20, 0, 20, 0, 20, 20, 20, 20, 20, 20, 20, 10, 10, 10, 1, 0, 0, 0, 1, 0, 0, 0, 1, 0, 0, 0, 0, 1, 2, 0, 4, 9, 0, 1, 2, 3, 4, 5, 6, 7, 8, 10, 10, 0, 0, 10, 0, 16, 0, 0, 0, 10, 0, 15, 0, 0, 10, 0, 10, 12, 0, 0, 0, 12, 0, 0, 0, 12, 0, 0, 0, 0, 12, 11, 0, 0, 10, 0, 0, 0, 0, 0, 0, 0, 0, 0, 0, 0, 0, 10, 0, 22, 3, 11, 10, 13, 10, 10, 10, 0, 20, 0, 20, 0, 20, 20, 20, 20, 20, 20, 20, 10, 10, 10, 1, 0, 0, 0, 1, 0, 0, 0, 1, 0, 0, 0, 0, 1, 2, 0, 5, 9, 0, 1, 2, 3, 4, 5, 6, 7, 8, 10, 10, 0, 0, 10, 0, 17, 0, 0, 0, 10, 0, 16, 0, 0, 11, 0, 0, 10, 10, 0, 0, 0, 29, 1, 17, 0, 20, 0, 20, 0, 20, 20, 20, 20, 20, 20, 20, 10, 10, 10, 1, 0, 0, 0, 1, 0, 0, 0, 1, 0, 0, 0, 0, 1, 2, 0, 6, 9, 0, 1, 2, 3, 4, 5, 6, 7, 8, 10, 10, 0, 0, 10, 0, 18, 0, 0, 0, 10, 0, 16, 0, 0, 12, 0, 10, 12, 0, 0, 0, 12, 0, 0, 0, 12, 0, 0, 0, 0, 12, 11, 0, 0, 10, 0, 0, 0, 0, 0, 0, 0, 0, 0, 0, 0, 0, 10, 0, 24, 3, 11, 10, 13, 10, 10, 10, 0, 20, 0, 20, 0, 20, 20, 20, 20, 20, 20, 20, 10, 10, 10, 1, 0, 0, 0, 1, 0, 0, 0, 1, 0, 0, 0, 0, 1, 2, 0, 7, 9, 0, 1, 2, 3, 4, 5, 6, 7, 8, 10, 10, 0, 0, 10, 0, 19, 0, 0, 0, 10, 0, 18, 0, 0, 13, 0, 10, 12, 0, 0, 0, 12, 0, 0, 0, 12, 0, 0, 0, 0, 12, 11, 0, 0, 10, 0, 0, 0, 0, 0, 0, 0, 0, 0, 0, 0, 0, 10, 0, 25, 3, 11, 10, 13, 10, 10, 10, 0, 20, 0, 20, 0, 20, 20, 20, 20, 20, 20, 20, 10, 10, 10, 1, 0, 0, 0, 1, 0, 0, 0, 1, 0, 0, 0, 0, 1, 2, 0, 8, 9, 0, 1, 2, 3, 4, 5, 6, 7, 8, 10, 10, 0, 0, 10, 0, 20, 0, 0, 0, 10, 0, 19, 0, 0, 14, 0, 0, 10, 10, 0, 0, 0, 32, 1, 17, 0, 20, 0, 20, 0, 20, 20, 20, 26, 0, 10, 0, 0, 18, 18, 18, 0, 18, 0, 27, 27, 27, 27, 27, 18, 28, 28, 0, 28, 0, 29, 0, 29, 0, 29, 0, 29, 29, 28, 29, 29, 10, 10, 10, 1, 0, 0, 0, 1, 0, 0, 0, 1, 0, 0, 0, 0, 1, 2, 10, 0, 63, 3, 0, 1, 8, 0, 29, 0, 29, 0, 29, 29, 28, 29, 29, 10, 10, 10, 1, 0, 0, 0, 1, 0, 0, 0, 1, 0, 0, 0, 0, 1, 2, 10, 0, 63, 3, 0, 1, 8, 0, 29, 0, 29, 0, 29, 29, 28, 29, 29, 31, 0, 10, 10, 10, 10, 10, 10, 0, 0, 0, 0, 0, 0, 34, 34, 0, 34, 0, 34, 34, 34, 0, 34, 0, 34, 34, 34, 35, 0, 35, 0, 35, 0, 35, 35, 35, 35, 35, 35, 35, 10, 10, 10, 12, 0, 0, 0, 12, 0, 0, 0, 12, 0, 0, 0, 0, 12, 11, 0, 0, 10, 0, 0, 0, 0, 0, 0, 0, 0, 0, 0, 0, 0, 0, 33, 7, 11, 10, 13, 20, 21, 22, 23, 10, 10, 10, 10, 32, 32, 32, 32, 0, 0, 10, 0, 15, 0, 0, 32, 0, 32, 32, 32, 10, 33, 33, 33, 33, 0, 0, 10, 0, 15, 0, 0, 33, 0, 33, 33, 33, 10, 10, 10, 0, 35, 0, 35, 0, 35, 35, 35, 35, 35, 35, 35, 10, 10, 10, 12, 0, 0, 0, 12, 0, 0, 0, 12, 0, 0, 0, 0, 12, 11, 0, 0, 10, 0, 0, 0, 0, 0, 0, 0, 0, 0, 0, 0, 0, 0, 34, 7, 11, 10, 13, 20, 21, 22, 23, 10, 10, 10, 10, 32, 32, 32, 32, 0, 0, 10, 0, 16, 0, 0, 32, 0, 32, 32, 32, 10, 33, 33, 33, 33, 0, 0, 10, 0, 16, 0, 0, 33, 0, 33, 33, 33, 10, 10, 10, 0, 35, 0, 35, 0, 35, 35, 35, 35, 35, 35, 35, 10, 10, 10, 12, 0, 0, 0, 12, 0, 0, 0, 12, 0, 0, 0, 0, 12, 11, 0, 0, 10, 0, 0, 0, 0, 0, 0, 0, 0, 0, 0, 0, 0, 0, 35, 7, 11, 10, 13, 20, 21, 22, 23, 10, 10, 10, 10, 32, 32, 32, 32, 0, 0, 10, 1, 0, 0, 0, 1, 0, 0, 0, 1, 0, 0, 0, 0, 1, 2, 0, 64, 3, 0, 1, 8, 0, 53, 0, 0, 32, 0, 32, 32, 32, 10, 33, 33, 33, 33, 0, 0, 10, 18, 18, 18, 18, 0, 10, 0, 0, 10, 0, 16, 0, 0, 0, 0, 41, 1, 17, 0, 18, 47, 1, 17, 0, 59, 0, 0, 33, 0, 33, 33, 33, 0, 35, 0, 35, 0, 35, 35, 35, 35, 35, 35, 35, 10, 10, 10, 12, 0, 0, 0, 12, 0, 0, 0, 12, 0, 0, 0, 0, 12, 11, 0, 0, 10, 0, 0, 0, 0, 0, 0, 0, 0, 0, 0, 0, 0, 0, 36, 7, 11, 10, 13, 20, 21, 22, 23, 10, 10, 10, 10, 32, 32, 32, 32, 0, 0, 10, 0, 18, 0, 0, 32, 0, 32, 32, 32, 10, 33, 33, 33, 33, 0, 0, 10, 0, 18, 0, 0, 33, 0, 33, 33, 33, 10, 10, 10, 0, 35, 0, 35, 0, 35, 35, 35, 35, 35, 35, 35, 10, 10, 10, 12, 0, 0, 0, 12, 0, 0, 0, 12, 0, 0, 0, 0, 12, 11, 0, 0, 10, 0, 0, 0, 0, 0, 0, 0, 0, 0, 0, 0, 0, 0, 37, 7, 11, 10, 13, 20, 21, 22, 23, 10, 10, 10, 10, 32, 32, 32, 32, 0, 0, 10, 0, 19, 0, 0, 32, 0, 32, 32, 32, 10, 33, 33, 33, 33, 0, 0, 10, 0, 19, 0, 0, 33, 0, 33, 33, 33, 10, 10, 10, 0, 35, 0, 35, 0, 35, 35, 35, 35, 35, 35, 35, 10, 10, 10, 12, 0, 0, 0, 12, 0, 0, 0, 12, 0, 0, 0, 0, 12, 11, 0, 0, 10, 0, 0, 0, 0, 0, 0, 0, 0, 0, 0, 0, 0, 0, 38, 7, 11, 10, 13, 20, 21, 22, 23, 10, 10, 10, 10, 32, 32, 32, 32, 0, 0, 10, 1, 0, 0, 0, 1, 0, 0, 0, 1, 0, 0, 0, 0, 1, 2, 0, 64, 3, 0, 1, 8, 0, 56, 0, 0, 32, 0, 32, 32, 32, 10, 33, 33, 33, 33, 0, 0, 10, 18, 18, 18, 18, 0, 10, 0, 0, 10, 0, 19, 0, 0, 0, 0, 44, 1, 17, 0, 18, 50, 1, 17, 0, 62, 0, 0, 33, 0, 33, 33, 33, 0, 35, 0, 35, 0, 35, 35, 35, 37, 0, 10, 10, 37, 31, 32])
noncomputable def tgP0234 : Tg := (gl g0 [1, 0, 0, 10, 10, 0, 0, 0, 0, 0, 0, 0, 0, 0, 0, 0, 0, 0, 0, 0, 0, 0, 0, 0, 0, 0, 0, 0, 0, 0, 0, 0, 0, 0, 12, 0, 12, 0, 0, 0, 0, 1, 0, 0, 0, 13, 13, 13, 13, 13, 13, 13, 0, 0, 13, 0, 0, 14, 0, 0, 13, 13, 12, 0, 0, 0, 0, 12, 0, 0, 12, 0, 12, 0, 0, 0, 12, 0, 11, 11, 11, 13, 14, 14, 0, 14, 0, 15, 0, 15, 0, 15, 0, 15, 15, 14, 15, 15, 17, 0, 10, 10, 10, 10, 0, 0, 0, 0, 10, 10, 0, 0, 0, 0, 0, 0, 19, 19, 0, 19, 0, 19, 19, 19, 0, 19, 0, 19, 19, 19, 20, 0, 20, 0, 20, 0, 20, 20, 20, 20, 20, 20, 20, 10, 10, 10, 1, 0, 0, 0, 1, 0, 0, 0, 1, 0, 0, 0, 0, 1, 2, 0, 3, 9, 0, 1, 2, 3, 4, 5, 6, 7, 8, 10, 10, 0, 0, 10, 0, 15, 0, 0, 0, 10, 0, 0, 0, 0, 0, 9, 0, 10, 12, 0, 0, 0, 12, 0, 0, 0, 12, 0, 0, 0, 0, 12, 11, 0, 0, 10, 0, 0, 0, 0, 0, 0, 0, 0, 0, 0, 0, 0, 10, 0, 21, 3, 11, 10, 13, 10, 10, 10, 0, 20, 0, 20, 0, 20, 20, 20, 20, 20, 20, 20, 10, 10, 10, 1, 0, 0, 0, 1, 0, 0, 0, 1, 0, 0, 0, 0, 1, 2, 0, 4, 9, 0, 1, 2, 3, 4, 5, 6, 7, 8, 10, 10, 0, 0, 10, 0, 16, 0, 0, 0, 10, 0, 15, 0, 0, 10, 0, 0, 10, 10, 0, 0, 0, 28, 1, 17, 0, 20, 0, 20, 0, 20, 20, 20, 20, 20, 20, 20, 10, 10, 10, 1, 0, 0, 0, 1, 0, 0, 0, 1, 0, 0, 0, 0, 1, 2, 0, 5, 9, 0, 1, 2, 3, 4, 5, 6, 7, 8, 10, 10, 0, 0, 10, 0, 17, 0, 0, 0, 10, 0, 15, 0, 0, 11, 0, 10, 12, 0, 0, 0, 12, 0, 0, 0, 12, 0, 0, 0, 0, 12, 11, 0, 0, 10, 0, 0, 0, 0, 0, 0, 0, 0, 0, 0, 0, 0, 10, 0, 23, 3, 11, 10, 13, 10, 10, 10, 0, 20, 0, 20, 0, 20, 20, 20, 20, 20, 20, 20, 10, 10, 10, 1, 0, 0, 0, 1, 0, 0, 0, 1, 0, 0, 0, 0, 1, 2, 0, 6, 9, 0, 1, 2, 3, 4, 5, 6, 7, 8, 10, 10, 0, 0, 10, 0, 18, 0, 0, 0, 10, 0, 17, 0, 0, 12, 0, 10, 12, 0, 0, 0, 12, 0, 0, 0, 12, 0, 0, 0, 0, 12, 11, 0, 0, 10, 0, 0, 0, 0, 0, 0, 0, 0, 0, 0, 0, 0, 10, 0, 24, 3, 11, 10, 13, 10, 10, 10, 0, 20, 0, 20, 0, 20, 20, 20, 20, 20, 20, 20, 10, 10, 10, 1, 0, 0, 0, 1, 0, 0, 0, 1, 0, 0, 0, 0, 1, 2, 0, 7, 9, 0, 1, 2, 3, 4, 5, 6, 7, 8, 10, 10, 0, 0, 10, 0, 19, 0, 0, 0, 10, 0, 18, 0, 0, 13, 0, 10, 12, 0, 0, 0, 12, 0, 0, 0, 12, 0, 0, 0, 0, 12, 11, 0, 0, 10, 0, 0, 0, 0, 0, 0, 0, 0, 0, 0, 0, 0, 10, 0, 25, 3, 11, 10, 13, 10, 10, 10, 0, 20, 0, 20, 0, 20, 20, 20, 20, 20, 20, 20, 10, 10, 10, 1, 0, 0, 0, 1, 0, 0, 0, 1, 0, 0, 0, 0, 1, 2, 0, 8, 9, 0, 1, 2, 3, 4, 5, 6, 7, 8, 10, 10, 0, 0, 10, 0, 20, 0, 0, 0, 10, 0, 19, 0, 0, 14, 0, 0, 10, 10, 0, 0, 0, 32, 1, 17, 0, 20, 0, 20, 0, 20, 20, 20, 26, 0, 10, 0, 0, 18, 18, 18, 0, 18, 0, 27, 27, 27, 27, 27, 18, 28, 28, 0, 28, 0, 29, 0, 29, 0, 29, 0, 29, 29, 28, 29, 29, 10, 10, 10, 1, 0, 0, 0, 1, 0, 0, 0, 1, 0, 0, 0, 0, 1, 2, 10, 0, 63, 3, 0, 1, 8, 0, 29, 0, 29, 0, 29, 29, 28, 29, 29, 10, 10, 10, 1, 0, 0, 0, 1, 0, 0, 0, 1, 0, 0, 0, 0, 1, 2, 10, 0, 63, 3, 0, 1, 8, 0, 29, 0, 29, 0, 29, 29, 28, 29, 29, 31, 0, 10, 10, 10, 10, 10, 10, 0, 0, 0, 0, 0, 0, 34, 34, 0, 34, 0, 34, 34, 34, 0, 34, 0, 34, 34, 34, 35, 0, 35, 0, 35, 0, 35, 35, 35, 35, 35, 35, 35, 10, 10, 10, 12, 0, 0, 0, 12, 0, 0, 0, 12, 0, 0, 0, 0, 12, 11, 0, 0, 10, 0, 0, 0, 0, 0, 0, 0, 0, 0, 0, 0, 0, 0, 33, 7, 11, 10, 13, 20, 21, 22, 23, 10, 10, 10, 10, 32, 32, 32, 32, 0, 0, 10, 0, 15, 0, 0, 32, 0, 32, 32, 32, 10, 33, 33, 33, 33, 0, 0, 10, 0, 15, 0, 0, 33, 0, 33, 33, 33, 10, 10, 10, 0, 35, 0, 35, 0, 35, 35, 35, 35, 35, 35, 35, 10, 10, 10, 12, 0, 0, 0, 12, 0, 0, 0, 12, 0, 0, 0, 0, 12, 11, 0, 0, 10, 0, 0, 0, 0, 0, 0, 0, 0, 0, 0, 0, 0, 0, 34, 7, 11, 10, 13, 20, 21, 22, 23, 10, 10, 10, 10, 32, 32, 32, 32, 0, 0, 10, 1, 0, 0, 0, 1, 0, 0, 0, 1, 0, 0, 0, 0, 1, 2, 0, 64, 3, 0, 1, 8, 0, 52, 0, 0, 32, 0, 32, 32, 32, 10, 33, 33, 33, 33, 0, 0, 10, 18, 18, 18, 18, 0, 10, 0, 0, 10, 0, 15, 0, 0, 0, 0, 40, 1, 17, 0, 18, 46, 1, 17, 0, 58, 0, 0, 33, 0, 33, 33, 33, 0, 35, 0, 35, 0, 35, 35, 35, 35, 35, 35, 35, 10, 10, 10, 12, 0, 0, 0, 12, 0, 0, 0, 12, 0, 0, 0, 0, 12, 11, 0, 0, 10, 0, 0, 0, 0, 0, 0, 0, 0, 0, 0, 0, 0, 0, 35, 7, 11, 10, 13, 20, 21, 22, 23, 10, 10, 10, 10, 32, 32, 32, 32, 0, 0, 10, 0, 17, 0, 0, 32, 0, 32, 32, 32, 10, 33, 33, 33, 33, 0, 0, 10, 0, 17, 0, 0, 33, 0, 33, 33, 33, 10, 10, 10, 0, 35, 0, 35, 0, 35, 35, 35, 35, 35, 35, 35, 10, 10, 10, 12, 0, 0, 0, 12, 0, 0, 0, 12, 0, 0, 0, 0, 12, 11, 0, 0, 10, 0, 0, 0, 0, 0, 0, 0, 0, 0, 0, 0, 0, 0, 36, 7, 11, 10, 13, 20, 21, 22, 23, 10, 10, 10, 10, 32, 32, 32, 32, 0, 0, 10, 0, 18, 0, 0, 32, 0, 32, 32, 32, 10, 33, 33, 33, 33, 0, 0, 10, 0, 18, 0, 0, 33, 0, 33, 33, 33, 10, 10, 10, 0, 35, 0, 35, 0, 35, 35, 35, 35, 35, 35, 35, 10, 10, 10, 12, 0, 0, 0, 12, 0, 0, 0, 12, 0, 0, 0, 0, 12, 11, 0, 0, 10, 0, 0, 0, 0, 0, 0, 0, 0, 0, 0, 0, 0, 0, 37, 7, 11, 10, 13, 20, 21, 22, 23, 10, 10, 10, 10, 32, 32, 32, 32, 0, 0, 10, 0, 19, 0, 0, 32, 0, 32, 32, 32, 10, 33, 33, 33, 33, 0, 0, 10, 0, 19, 0, 0, 33, 0, 33, 33, 33, 10, 10, 10, 0, 35, 0, 35, 0, 35, 35, 35, 35, 35, 35, 35, 10, 10, 10, 12, 0, 0, 0, 12, 0, 0, 0, 12, 0, 0, 0, 0, 12, 11, 0, 0, 10, 0, 0, 0, 0, 0, 0, 0, 0, 0, 0, 0, 0, 0, 38, 7, 11, 10, 13, 20, 21, 22, 23, 10, 10, 10, 10, 32, 32, 32, 32, 0, 0, 10, 1, 0, 0, 0, 1, 0, 0, 0, 1, 0, 0, 0, 0, 1, 2, 0, 64, 3, 0, 1, 8, 0, 56, 0, 0, 32, 0, 32, 32, 32, 10, 33, 33, 33, 33, 0, 0, 10, 18, 18, 18, 18, 0, 10, 0, 0, 10, 0, 19, 0, 0, 0, 0, 44, 1, 17, 0, 18, 50, 1, 17, 0, 62, 0, 0, 33, 0, 33, 33, 33, 0, 35, 0, 35, 0, 35, 35, 35, 37, 0, 10, 10, 37, 31, 32])
noncomputable def tgP01234 : Tg := (gl g0 [1, 0, 0, 10, 10, 0, 0, 0, 0, 0, 0, 0, 0, 0, 0, 0, 0, 0, 0, 0, 0, 0, 0, 0, 0, 0, 0, 0, 0, 0, 0, 0, 0, 0, 12, 0, 12, 0, 0, 0, 0, 1, 0, 0, 0, 13, 13, 13, 13, 13, 13, 13, 0, 0, 13, 0, 0, 14, 0, 0, 13, 13, 12, 0, 0, 0, 0, 12, 0, 0, 12, 0, 12, 0, 0, 0, 12, 0, 11, 11, 11, 13, 14, 14, 0, 14, 0, 15, 0, 15, 0, 15, 0, 15, 15, 14, 15, 15, 17, 0, 10, 10, 10, 10, 0, 0, 0, 0, 10, 10, 0, 0, 0, 0, 0, 0, 19, 19, 0, 19, 0, 19, 19, 19, 0, 19, 0, 19, 19, 19, 20, 0, 20, 0, 20, 0, 20, 20, 20, 20, 20, 20, 20, 10, 10, 10, 1, 0, 0, 0, 1, 0, 0, 0, 1, 0, 0, 0, 0, 1, 2, 0, 3, 9, 0, 1, 2, 3, 4, 5, 6, 7, 8, 10, 10, 0, 0, 10, 0, 15, 0, 0, 0, 10, 0, 0, 0, 0, 0, 9, 0, 10, 12, 0, 0, 0, 12, 0, 0, 0, 12, 0, 0, 0, 0, 12, 11, 0, 0, 10, 0, 0, 0, 0, 0, 0, 0, 0, 0, 0, 0, 0, 10, 0, 21, 3, 11, 10, 13, 10, 10, 10, 0, 20, 0, 20, 0, 20, 20, 20, 20, 20, 20, 20, 10, 10, 10, 1, 0, 0, 0, 1, 0, 0, 0, 1, 0, 0, 0, 0, 1, 2, 0, 4, 9, 0, 1, 2, 3, 4, 5, 6, 7, 8, 10, 10, 0, 0, 10, 0, 16, 0, 0, 0, 10, 0, 15, 0, 0, 10, 0, 10, 12, 0, 0, 0, 12, 0, 0, 0, 12, 0, 0, 0, 0, 12, 11, 0, 0, 10, 0, 0, 0, 0, 0, 0, 0, 0, 0, 0, 0, 0, 10, 0, 22, 3, 11, 10, 13, 10, 10, 10, 0, 20, 0, 20, 0, 20, 20, 20, 20, 20, 20, 20, 10, 10, 10, 1, 0, 0, 0, 1, 0, 0, 0, 1, 0, 0, 0, 0, 1, 2, 0, 5, 9, 0, 1, 2, 3, 4, 5, 6, 7, 8, 10, 10, 0, 0, 10, 0, 17, 0, 0, 0, 10, 0, 16, 0, 0, 11, 0, 10, 12, 0, 0, 0, 12, 0, 0, 0, 12, 0, 0, 0, 0, 12, 11, 0, 0, 10, 0, 0, 0, 0, 0, 0, 0, 0, 0, 0, 0, 0, 10, 0, 23, 3, 11, 10, 13, 10, 10, 10, 0, 20, 0, 20, 0, 20, 20, 20, 20, 20, 20, 20, 10, 10, 10, 1, 0, 0, 0, 1, 0, 0, 0, 1, 0, 0, 0, 0, 1, 2, 0, 6, 9, 0, 1, 2, 3, 4, 5, 6, 7, 8, 10, 10, 0, 0, 10, 0, 18, 0, 0, 0, 10, 0, 17, 0, 0, 12, 0, 10, 12, 0, 0, 0, 12, 0, 0, 0, 12, 0, 0, 0, 0, 12, 11, 0, 0, 10, 0, 0, 0, 0, 0, 0, 0, 0, 0, 0, 0, 0, 10, 0, 24, 3, 11, 10, 13, 10, 10, 10, 0, 20, 0, 20, 0, 20, 20, 20, 20, 20, 20, 20, 10, 10, 10, 1, 0, 0, 0, 1, 0, 0, 0, 1, 0, 0, 0, 0, 1, 2, 0, 7, 9, 0, 1, 2, 3, 4, 5, 6, 7, 8, 10, 10, 0, 0, 10, 0, 19, 0, 0, 0, 10, 0, 18, 0, 0, 13, 0, 10, 12, 0, 0, 0, 12, 0, 0, 0, 12, 0, 0, 0, 0, 12, 11, 0, 0, 10, 0, 0, 0, 0, 0, 0, 0, 0, 0, 0, 0, 0, 10, 0, 25, 3, 11, 10, 13, 10, 10, 10, 0, 20, 0, 20, 0, 20, 20, 20, 20, 20, 20, 20, 10, 10, 10, 1, 0, 0, 0, 1, 0, 0, 0, 1, 0, 0, 0, 0, 1, 2, 0, 8, 9, 0, 1, 2, 3, 4, 5, 6, 7, 8, 10, 10, 0, 0, 10, 0, 20, 0, 0, 0, 10, 0, 19, 0, 0, 14, 0, 0, 10, 10, 0, 0, 0, 32, 1, 17, 0, 20, 0, 20, 0, 20, 20, 20, 27, 0, 10, 0, 0, 18, 18, 18, 0, 18, 0, 28, 28, 28, 28, 28, 18, 29, 29, 0, 29, 0, 30, 0, 30, 0, 30, 0, 30, 30, 29, 30, 30, 10, 10, 10, 1, 0, 0, 0, 1, 0, 0, 0, 1, 0, 0, 0, 0, 1, 2, 10, 0, 63, 3, 0, 1, 8, 0, 30, 0, 30, 0, 30, 30, 29, 30, 30, 32, 0, 10, 10, 10, 10, 10, 10, 0, 0, 0, 0, 0, 0, 35, 35, 0, 35, 0, 35, 35, 35, 0, 35, 0, 35, 35, 35, 36, 0, 36, 0, 36, 0, 36, 36, 36, 36, 36, 36, 36, 10, 10, 10, 12, 0, 0, 0, 12, 0, 0, 0, 12, 0, 0, 0, 0, 12, 11, 0, 0, 10, 0, 0, 0, 0, 0, 0, 0, 0, 0, 0, 0, 0, 0, 33, 8, 11, 10, 13, 20, 21, 22, 23, 24, 10, 10, 10, 10, 33, 33, 33, 33, 0, 0, 10, 0, 15, 0, 0, 33, 0, 33, 33, 33, 10, 34, 34, 34, 34, 0, 0, 10, 0, 15, 0, 0, 34, 0, 34, 34, 34, 10, 10, 10, 0, 36, 0, 36, 0, 36, 36, 36, 36, 36, 36, 36, 10, 10, 10, 12, 0, 0, 0, 12, 0, 0, 0, 12, 0, 0, 0, 0, 12, 11, 0, 0, 10, 0, 0, 0, 0, 0, 0, 0, 0, 0, 0, 0, 0, 0, 34, 8, 11, 10, 13, 20, 21, 22, 23, 24, 10, 10, 10, 10, 33, 33, 33, 33, 0, 0, 10, 0, 16, 0, 0, 33, 0, 33, 33, 33, 10, 34, 34, 34, 34, 0, 0, 10, 0, 16, 0, 0, 34, 0, 34, 34, 34, 10, 10, 10, 0, 36, 0, 36, 0, 36, 36, 36, 36, 36, 36, 36, 10, 10, 10, 12, 0, 0, 0, 12, 0, 0, 0, 12, 0, 0, 0, 0, 12, 11, 0, 0, 10, 0, 0, 0, 0, 0, 0, 0, 0, 0, 0, 0, 0, 0, 35, 8, 11, 10, 13, 20, 21, 22, 23, 24, 10, 10, 10, 10, 33, 33, 33, 33, 0, 0, 10, 0, 17, 0, 0, 33, 0, 33, 33, 33, 10, 34, 34, 34, 34, 0, 0, 10, 0, 17, 0, 0, 34, 0, 34, 34, 34, 10, 10, 10, 0, 36, 0, 36, 0, 36, 36, 36, 36, 36, 36, 36, 10, 10, 10, 12, 0, 0, 0, 12, 0, 0, 0, 12, 0, 0, 0, 0, 12, 11, 0, 0, 10, 0, 0, 0, 0, 0, 0, 0, 0, 0, 0, 0, 0, 0, 36, 8, 11, 10, 13, 20, 21, 22, 23, 24, 10, 10, 10, 10, 33, 33, 33, 33, 0, 0, 10, 0, 18, 0, 0, 33, 0, 33, 33, 33, 10, 34, 34, 34, 34, 0, 0, 10, 0, 18, 0, 0, 34, 0, 34, 34, 34, 10, 10, 10, 0, 36, 0, 36, 0, 36, 36, 36, 36, 36, 36, 36, 10, 10, 10, 12, 0, 0, 0, 12, 0, 0, 0, 12, 0, 0, 0, 0, 12, 11, 0, 0, 10, 0, 0, 0, 0, 0, 0, 0, 0, 0, 0, 0, 0, 0, 37, 8, 11, 10, 13, 20, 21, 22, 23, 24, 10, 10, 10, 10, 33, 33, 33, 33, 0, 0, 10, 0, 19, 0, 0, 33, 0, 33, 33, 33, 10, 34, 34, 34, 34, 0, 0, 10, 0, 19, 0, 0, 34, 0, 34, 34, 34, 10, 10, 10, 0, 36, 0, 36, 0, 36, 36, 36, 36, 36, 36, 36, 10, 10, 10, 12, 0, 0, 0, 12, 0, 0, 0, 12, 0, 0, 0, 0, 12, 11, 0, 0, 10, 0, 0, 0, 0, 0, 0, 0, 0, 0, 0, 0, 0, 0, 38, 8, 11, 10, 13, 20, 21, 22, 23, 24, 10, 10, 10, 10, 33, 33, 33, 33, 0, 0, 10, 1, 0, 0, 0, 1, 0, 0, 0, 1, 0, 0, 0, 0, 1, 2, 0, 64, 3, 0, 1, 8, 0, 56, 0, 0, 33, 0, 33, 33, 33, 10, 34, 34, 34, 34, 0, 0, 10, 18, 18, 18, 18, 0, 10, 0, 0, 10, 0, 19, 0, 0, 0, 0, 44, 1, 17, 0, 18, 50, 1, 17, 0, 62, 0, 0, 34, 0, 34, 34, 34, 0, 36, 0, 36, 0, 36, 36, 36, 38, 0, 10, 10, 38, 32, 33])
noncomputable def tgP05 : Tg := (gl g0 [1, 0, 0, 10, 10, 0, 0, 0, 0, 0, 0, 0, 0, 0, 0, 0, 0, 0, 0, 0, 0, 0, 0, 0, 0, 0, 0, 0, 0, 0, 0, 0, 0, 0, 12, 0, 12, 0, 0, 0, 0, 1, 0, 0, 0, 13, 13, 13, 13, 13, 13, 13, 0, 0, 13, 0, 0, 14, 0, 0, 13, 13, 12, 0, 0, 0, 0, 12, 0, 0, 12, 0, 12, 0, 0, 0, 12, 0, 11, 11, 11, 13, 14, 14, 0, 14, 0, 15, 0, 15, 0, 15, 0, 15, 15, 14, 15, 15, 17, 0, 10, 10, 10, 10, 0, 0, 0, 0, 10, 10, 0, 0, 0, 0, 0, 0, 19, 19, 0, 19, 0, 19, 19, 19, 0, 19, 0, 19, 19, 19, 20, 0, 20, 0, 20, 0, 20, 20, 20, 20, 20, 20, 20, 10, 10, 10, 1, 0, 0, 0, 1, 0, 0, 0, 1, 0, 0, 0, 0, 1, 2, 0, 3, 9, 0, 1, 2, 3, 4, 5, 6, 7, 8, 10, 10, 0, 0, 10, 0, 15, 0, 0, 0, 10, 0, 0, 0, 0, 0, 9, 0, 10, 12, 0, 0, 0, 12, 0, 0, 0, 12, 0, 0, 0, 0, 12, 11, 0, 0, 10, 0, 0, 0, 0, 0, 0, 0, 0, 0, 0, 0, 0, 10, 0, 21, 3, 11, 10, 13, 10, 10, 10, 0, 20, 0, 20, 0, 20, 20, 20, 20, 20, 20, 20, 10, 10, 10, 1, 0, 0, 0, 1, 0, 0, 0, 1, 0, 0, 0, 0, 1, 2, 0, 4, 9, 0, 1, 2, 3, 4, 5, 6, 7, 8, 10, 10, 0, 0, 10, 0, 16, 0, 0, 0, 10, 0, 15, 0, 0, 10, 0, 0, 10, 10, 0, 0, 0, 28, 1, 17, 0, 20, 0, 20, 0, 20, 20, 20, 20, 20, 20, 20, 10, 10, 10, 1, 0, 0, 0, 1, 0, 0, 0, 1, 0, 0, 0, 0, 1, 2, 0, 5, 9, 0, 1, 2, 3, 4, 5, 6, 7, 8, 10, 10, 0, 0, 10, 0, 17, 0, 0, 0, 10, 0, 15, 0, 0, 11, 0, 0, 10, 10, 0, 0, 0, 29, 1, 17, 0, 20, 0, 20, 0, 20, 20, 20, 20, 20, 20, 20, 10, 10, 10, 1, 0, 0, 0, 1, 0, 0, 0, 1, 0, 0, 0, 0, 1, 2, 0, 6, 9, 0, 1, 2, 3, 4, 5, 6, 7, 8, 10, 10, 0, 0, 10, 0, 18, 0, 0, 0, 10, 0, 15, 0, 0, 12, 0, 0, 10, 10, 0, 0, 0, 30, 1, 17, 0, 20, 0, 20, 0, 20, 20, 20, 20, 20, 20, 20, 10, 10, 10, 1, 0, 0, 0, 1, 0, 0, 0, 1, 0, 0, 0, 0, 1, 2, 0, 7, 9, 0, 1, 2, 3, 4, 5, 6, 7, 8, 10, 10, 0, 0, 10, 0, 19, 0, 0, 0, 10, 0, 15, 0, 0, 13, 0, 0, 10, 10, 0, 0, 0, 31, 1, 17, 0, 20, 0, 20, 0, 20, 20, 20, 20, 20, 20, 20, 10, 10, 10, 1, 0, 0, 0, 1, 0, 0, 0, 1, 0, 0, 0, 0, 1, 2, 0, 8, 9, 0, 1, 2, 3, 4, 5, 6, 7, 8, 10, 10, 0, 0, 10, 0, 20, 0, 0, 0, 10, 0, 15, 0, 0, 14, 0, 10, 12, 0, 0, 0, 12, 0, 0, 0, 12, 0, 0, 0, 0, 12, 11, 0, 0, 10, 0, 0, 0, 0, 0, 0, 0, 0, 0, 0, 0, 0, 10, 0, 26, 3, 11, 10, 13, 10, 10, 10, 0, 20, 0, 20, 0, 20, 20, 20, 24, 0, 10, 0, 0, 18, 18, 18, 0, 18, 0, 25, 25, 25, 25, 25, 18, 26, 26, 0, 26, 0, 27, 0, 27, 0, 27, 0, 27, 27, 26, 27, 27, 10, 10, 10, 1, 0, 0, 0, 1, 0, 0, 0, 1, 0, 0, 0, 0, 1, 2, 10, 0, 63, 3, 0, 1, 8, 0, 27, 0, 27, 0, 27, 27, 26, 27, 27, 10, 10, 10, 1, 0, 0, 0, 1, 0, 0, 0, 1, 0, 0, 0, 0, 1, 2, 10, 0, 63, 3, 0, 1, 8, 0, 27, 0, 27, 0, 27, 27, 26, 27, 27, 10, 10, 10, 1, 0, 0, 0, 1, 0, 0, 0, 1, 0, 0, 0, 0, 1, 2, 10, 0, 63, 3, 0, 1, 8, 0, 27, 0, 27, 0, 27, 27, 26, 27, 27, 10, 10, 10, 1, 0, 0, 0, 1, 0, 0, 0, 1, 0, 0, 0, 0, 1, 2, 10, 0, 63, 3, 0, 1, 8, 0, 27, 0, 27, 0, 27, 27, 26, 27, 27, 29, 0, 10, 10, 10, 10, 10, 10, 0, 0, 0, 0, 0, 0, 32, 32, 0, 32, 0, 32, 32, 32, 0, 32, 0, 32, 32, 32, 33, 0, 33, 0, 33, 0, 33, 33, 33, 33, 33, 33, 33, 10, 10, 10, 12, 0, 0, 0, 12, 0, 0, 0, 12, 0, 0, 0, 0, 12, 11, 0, 0, 10, 0, 0, 0, 0, 0, 0, 0, 0, 0, 0, 0, 0, 0, 33, 5, 11, 10, 13, 20, 21, 10, 10, 10, 10, 30, 30, 30, 30, 0, 0, 10, 0, 15, 0, 0, 30, 0, 30, 30, 30, 10, 31, 31, 31, 31, 0, 0, 10, 0, 15, 0, 0, 31, 0, 31, 31, 31, 10, 10, 10, 0, 33, 0, 33, 0, 33, 33, 33, 33, 33, 33, 33, 10, 10, 10, 12, 0, 0, 0, 12, 0, 0, 0, 12, 0, 0, 0, 0, 12, 11, 0, 0, 10, 0, 0, 0, 0, 0, 0, 0, 0, 0, 0, 0, 0, 0, 34, 5, 11, 10, 13, 20, 21, 10, 10, 10, 10, 30, 30, 30, 30, 0, 0, 10, 1, 0, 0, 0, 1, 0, 0, 0, 1, 0, 0, 0, 0, 1, 2, 0, 64, 3, 0, 1, 8, 0, 52, 0, 0, 30, 0, 30, 30, 30, 10, 31, 31, 31, 31, 0, 0, 10, 18, 18, 18, 18, 0, 10, 0, 0, 10, 0, 15, 0, 0, 0, 0, 40, 1, 17, 0, 18, 46, 1, 17, 0, 58, 0, 0, 31, 0, 31, 31, 31, 0, 33, 0, 33, 0, 33, 33, 33, 33, 33, 33, 33, 10, 10, 10, 12, 0, 0, 0, 12, 0, 0, 0, 12, 0, 0, 0, 0, 12, 11, 0, 0, 10, 0, 0, 0, 0, 0, 0, 0, 0, 0, 0, 0, 0, 0, 35, 5, 11, 10, 13, 20, 21, 10, 10, 10, 10, 30, 30, 30, 30, 0, 0, 10, 1, 0, 0, 0, 1, 0, 0, 0, 1, 0, 0, 0, 0, 1, 2, 0, 64, 3, 0, 1, 8, 0, 53, 0, 0, 30, 0, 30, 30, 30, 10, 31, 31, 31, 31, 0, 0, 10, 18, 18, 18, 18, 0, 10, 0, 0, 10, 0, 15, 0, 0, 0, 0, 41, 1, 17, 0, 18, 47, 1, 17, 0, 59, 0, 0, 31, 0, 31, 31, 31, 0, 33, 0, 33, 0, 33, 33, 33, 33, 33, 33, 33, 10, 10, 10, 12, 0, 0, 0, 12, 0, 0, 0, 12, 0, 0, 0, 0, 12, 11, 0, 0, 10, 0, 0, 0, 0, 0, 0, 0, 0, 0, 0, 0, 0, 0, 36, 5, 11, 10, 13, 20, 21, 10, 10, 10, 10, 30, 30, 30, 30, 0, 0, 10, 1, 0, 0, 0, 1, 0, 0, 0, 1, 0, 0, 0, 0, 1, 2, 0, 64, 3, 0, 1, 8, 0, 54, 0, 0, 30, 0, 30, 30, 30, 10, 31, 31, 31, 31, 0, 0, 10, 18, 18, 18, 18, 0, 10, 0, 0, 10, 0, 15, 0, 0, 0, 0, 42, 1, 17, 0, 18, 48, 1, 17, 0, 60, 0, 0, 31, 0, 31, 31, 31, 0, 33, 0, 33, 0, 33, 33, 33, 33, 33, 33, 33, 10, 10, 10, 12, 0, 0, 0, 12, 0, 0, 0, 12, 0, 0, 0, 0, 12, 11, 0, 0, 10, 0, 0, 0, 0, 0, 0, 0, 0, 0, 0, 0, 0, 0, 37, 5, 11, 10, 13, 20, 21, 10, 10, 10, 10, 30, 30, 30, 30, 0, 0, 10, 1, 0, 0, 0, 1, 0, 0, 0, 1, 0, 0, 0, 0, 1, 2, 0, 64, 3, 0, 1, 8, 0, 55, 0, 0, 30, 0, 30, 30, 30, 10, 31, 31, 31, 31, 0, 0, 10, 18, 18, 18, 18, 0, 10, 0, 0, 10, 0, 15, 0, 0, 0, 0, 43, 1, 17, 0, 18, 49, 1, 17, 0, 61, 0, 0, 31, 0, 31, 31, 31, 0, 33, 0, 33, 0, 33, 33, 33, 33, 33, 33, 33, 10, 10, 10, 12, 0, 0, 0, 12, 0, 0, 0, 12, 0, 0, 0, 0, 12, 11, 0, 0, 10, 0, 0, 0, 0, 0, 0, 0, 0, 0, 0, 0, 0, 0, 38, 5, 11, 10, 13, 20, 21, 10, 10, 10, 10, 30, 30, 30, 30, 0, 0, 10, 0, 20, 0, 0, 30, 0, 30, 30, 30, 10, 31, 31, 31, 31, 0, 0, 10, 0, 20, 0, 0, 31, 0, 31, 31, 31, 10, 10, 10, 0, 33, 0, 33, 0, 33, 33, 33, 35, 0, 10, 10, 35, 29, 30])
noncomputable def tgP015 : Tg := (gl g0 [1, 0, 0, 10, 10, 0, 0, 0, 0, 0, 0, 0, 0, 0, 0, 0, 0, 0, 0, 0, 0, 0, 0, 0, 0, 0, 0, 0, 0, 0, 0, 0, 0, 0, 12, 0, 12, 0, 0, 0, 0, 1, 0, 0, 0, 13, 13, 13, 13, 13, 13, 13, 0, 0, 13, 0, 0, 14, 0, 0, 13, 13, 12, 0, 0, 0, 0, 12, 0, 0, 12, 0, 12, 0, 0, 0, 12, 0, 11, 11, 11, 13, 14, 14, 0, 14, 0, 15, 0, 15, 0, 15, 0, 15, 15, 14, 15, 15, 17, 0, 10, 10, 10, 10, 0, 0, 0, 0, 10, 10, 0, 0, 0, 0, 0, 0, 19, 19, 0, 19, 0, 19, 19, 19, 0, 19, 0, 19, 19, 19, 20, 0, 20, 0, 20, 0, 20, 20, 20, 20, 20, 20, 20, 10, 10, 10, 1, 0, 0, 0, 1, 0, 0, 0, 1, 0, 0, 0, 0, 1, 2, 0, 3, 9, 0, 1, 2, 3, 4, 5, 6, 7, 8, 10, 10, 0, 0, 10, 0, 15, 0, 0, 0, 10, 0, 0, 0, 0, 0, 9, 0, 10, 12, 0, 0, 0, 12, 0, 0, 0, 12, 0, 0, 0, 0, 12, 11, 0, 0, 10, 0, 0, 0, 0, 0, 0, 0, 0, 0, 0, 0, 0, 10, 0, 21, 3, 11, 10, 13, 10, 10, 10, 0, 20, 0, 20, 0, 20, 20, 20, 20, 20, 20, 20, 10, 10, 10, 1, 0, 0, 0, 1, 0, 0, 0, 1, 0, 0, 0, 0, 1, 2, 0, 4, 9, 0, 1, 2, 3, 4, 5, 6, 7, 8, 10, 10, 0, 0, 10, 0, 16, 0, 0, 0, 10, 0, 15, 0, 0, 10, 0, 10, 12, 0, 0, 0, 12, 0, 0, 0, 12, 0, 0, 0, 0, 12, 11, 0, 0, 10, 0, 0, 0, 0, 0, 0, 0, 0, 0, 0, 0, 0, 10, 0, 22, 3, 11, 10, 13, 10, 10, 10, 0, 20, 0, 20, 0, 20, 20, 20, 20, 20, 20, 20, 10, 10, 10, 1, 0, 0, 0, 1, 0, 0, 0, 1, 0, 0, 0, 0, 1, 2, 0, 5, 9, 0, 1, 2, 3, 4, 5, 6, 7, 8, 10, 10, 0, 0, 10, 0, 17, 0, 0, 0, 10, 0, 16, 0, 0, 11, 0, 0, 10, 10, 0, 0, 0, 29, 1, 17, 0, 20, 0, 20, 0, 20, 20, 20, 20, 20, 20, 20, 10, 10, 10, 1, 0, 0, 0, 1, 0, 0, 0, 1, 0, 0, 0, 0, 1, 2, 0, 6, 9, 0, 1, 2, 3, 4, 5, 6, 7, 8, 10, 10, 0, 0, 10, 0, 18, 0, 0, 0, 10, 0, 16, 0, 0, 12, 0, 0, 10, 10, 0, 0, 0, 30, 1, 17, 0, 20, 0, 20, 0, 20, 20, 20, 20, 20, 20, 20, 10, 10, 10, 1, 0, 0, 0, 1, 0, 0, 0, 1, 0, 0, 0, 0, 1, 2, 0, 7, 9, 0, 1, 2, 3, 4, 5, 6, 7, 8, 10, 10, 0, 0, 10, 0, 19, 0, 0, 0, 10, 0, 16, 0, 0, 13, 0, 0, 10, 10, 0, 0, 0, 31, 1, 17, 0, 20, 0, 20, 0, 20, 20, 20, 20, 20, 20, 20, 10, 10, 10, 1, 0, 0, 0, 1, 0, 0, 0, 1, 0, 0, 0, 0, 1, 2, 0, 8, 9, 0, 1, 2, 3, 4, 5, 6, 7, 8, 10, 10, 0, 0, 10, 0, 20, 0, 0, 0, 10, 0, 16, 0, 0, 14, 0, 10, 12, 0, 0, 0, 12, 0, 0, 0, 12, 0, 0, 0, 0, 12, 11, 0, 0, 10, 0, 0, 0, 0, 0, 0, 0, 0, 0, 0, 0, 0, 10, 0, 26, 3, 11, 10, 13, 10, 10, 10, 0, 20, 0, 20, 0, 20, 20, 20, 25, 0, 10, 0, 0, 18, 18, 18, 0, 18, 0, 26, 26, 26, 26, 26, 18, 27, 27, 0, 27, 0, 28, 0, 28, 0, 28, 0, 28, 28, 27, 28, 28, 10, 10, 10, 1, 0, 0, 0, 1, 0, 0, 0, 1, 0, 0, 0, 0, 1, 2, 10, 0, 63, 3, 0, 1, 8, 0, 28, 0, 28, 0, 28, 28, 27, 28, 28, 10, 10, 10, 1, 0, 0, 0, 1, 0, 0, 0, 1, 0, 0, 0, 0, 1, 2, 10, 0, 63, 3, 0, 1, 8, 0, 28, 0, 28, 0, 28, 28, 27, 28, 28, 10, 10, 10, 1, 0, 0, 0, 1, 0, 0, 0, 1, 0, 0, 0, 0, 1, 2, 10, 0, 63, 3, 0, 1, 8, 0, 28, 0, 28, 0, 28, 28, 27, 28, 28, 30, 0, 10, 10, 10, 10, 10, 10, 0, 0, 0, 0, 0, 0, 33, 33, 0, 33, 0, 33, 33, 33, 0, 33, 0, 33, 33, 33, 34, 0, 34, 0, 34, 0, 34, 34, 34, 34, 34, 34, 34, 10, 10, 10, 12, 0, 0, 0, 12, 0, 0, 0, 12, 0, 0, 0, 0, 12, 11, 0, 0, 10, 0, 0, 0, 0, 0, 0, 0, 0, 0, 0, 0, 0, 0, 33, 6, 11, 10, 13, 20, 21, 22, 10, 10, 10, 10, 31, 31, 31, 31, 0, 0, 10, 0, 15, 0, 0, 31, 0, 31, 31, 31, 10, 32, 32, 32, 32, 0, 0, 10, 0, 15, 0, 0, 32, 0, 32, 32, 32, 10, 10, 10, 0, 34, 0, 34, 0, 34, 34, 34, 34, 34, 34, 34, 10, 10, 10, 12, 0, 0, 0, 12, 0, 0, 0, 12, 0, 0, 0, 0, 12, 11, 0, 0, 10, 0, 0, 0, 0, 0, 0, 0, 0, 0, 0, 0, 0, 0, 34, 6, 11, 10, 13, 20, 21, 22, 10, 10, 10, 10, 31, 31, 31, 31, 0, 0, 10, 0, 16, 0, 0, 31, 0, 31, 31, 31, 10, 32, 32, 32, 32, 0, 0, 10, 0, 16, 0, 0, 32, 0, 32, 32, 32, 10, 10, 10, 0, 34, 0, 34, 0, 34, 34, 34, 34, 34, 34, 34, 10, 10, 10, 12, 0, 0, 0, 12, 0, 0, 0, 12, 0, 0, 0, 0, 12, 11, 0, 0, 10, 0, 0, 0, 0, 0, 0, 0, 0, 0, 0, 0, 0, 0, 35, 6, 11, 10, 13, 20, 21, 22, 10, 10, 10, 10, 31, 31, 31, 31, 0, 0, 10, 1, 0, 0, 0, 1, 0, 0, 0, 1, 0, 0, 0, 0, 1, 2, 0, 64, 3, 0, 1, 8, 0, 53, 0, 0, 31, 0, 31, 31, 31, 10, 32, 32, 32, 32, 0, 0, 10, 18, 18, 18, 18, 0, 10, 0, 0, 10, 0, 16, 0, 0, 0, 0, 41, 1, 17, 0, 18, 47, 1, 17, 0, 59, 0, 0, 32, 0, 32, 32, 32, 0, 34, 0, 34, 0, 34, 34, 34, 34, 34, 34, 34, 10, 10, 10, 12, 0, 0, 0, 12, 0, 0, 0, 12, 0, 0, 0, 0, 12, 11, 0, 0, 10, 0, 0, 0, 0, 0, 0, 0, 0, 0, 0, 0, 0, 0, 36, 6, 11, 10, 13, 20, 21, 22, 10, 10, 10, 10, 31, 31, 31, 31, 0, 0, 10, 1, 0, 0, 0, 1, 0, 0, 0, 1, 0, 0, 0, 0, 1, 2, 0, 64, 3, 0, 1, 8, 0, 54, 0, 0, 31, 0, 31, 31, 31, 10, 32, 32, 32, 32, 0, 0, 10, 18, 18, 18, 18, 0, 10, 0, 0, 10, 0, 16, 0, 0, 0, 0, 42, 1, 17, 0, 18, 48, 1, 17, 0, 60, 0, 0, 32, 0, 32, 32, 32, 0, 34, 0, 34, 0, 34, 34, 34, 34, 34, 34, 34, 10, 10, 10, 12, 0, 0, 0, 12, 0, 0, 0, 12, 0, 0, 0, 0, 12, 11, 0, 0, 10, 0, 0, 0, 0, 0, 0, 0, 0, 0, 0, 0, 0, 0, 37, 6, 11, 10, 13, 20, 21, 22, 10, 10, 10, 10, 31, 31, 31, 31, 0, 0, 10, 1, 0, 0, 0, 1, 0, 0, 0, 1, 0, 0, 0, 0, 1, 2, 0, 64, 3, 0, 1, 8, 0, 55, 0, 0, 31, 0, 31, 31, 31, 10, 32, 32, 32, 32, 0, 0, 10, 18, 18, 18, 18, 0, 10, 0, 0, 10, 0, 16, 0, 0, 0, 0, 43, 1, 17, 0, 18, 49, 1, 17, 0, 61, 0, 0, 32, 0, 32, 32, 32, 0, 34, 0, 34, 0, 34, 34, 34, 34, 34, 34, 34, 10, 10, 10, 12, 0, 0, 0, 12, 0, 0, 0, 12, 0, 0, 0, 0, 12, 11, 0, 0, 10, 0, 0, 0, 0, 0, 0, 0, 0, 0, 0, 0, 0, 0, 38, 6, 11, 10, 13, 20, 21, 22, 10, 10, 10, 10, 31, 31, 31, 31, 0, 0, 10, 0, 20, 0, 0, 31, 0, 31, 31, 31, 10, 32, 32, 32, 32, 0, 0, 10, 0, 20, 0, 0, 32, 0, 32, 32, 32, 10, 10, 10, 0, 34, 0, 34, 0, 34, 34, 34, 36, 0, 10, 10, 36, 30, 31])
noncomputable def tgP025 : Tg := (gl g0 [1, 0, 0, 10, 10, 0, 0, 0, 0, 0, 0, 0, 0, 0, 0, 0, 0, 0, 0, 0, 0, 0, 0, 0, 0, 0, 0, 0, 0, 0, 0, 0, 0, 0, 12, 0, 12, 0, 0, 0, 0, 1, 0, 0, 0, 13, 13, 13, 13, 13, 13, 13, 0, 0, 13, 0, 0, 14, 0, 0, 13, 13, 12, 0, 0, 0, 0, 12, 0, 0, 12, 0, 12, 0, 0, 0, 12, 0, 11, 11, 11, 13, 14, 14, 0, 14, 0, 15, 0, 15, 0, 15, 0, 15, 15, 14, 15, 15, 17, 0, 10, 10, 10, 10, 0, 0, 0, 0, 10, 10, 0, 0, 0, 0, 0, 0, 19, 19, 0, 19, 0, 19, 19, 19, 0, 19, 0, 19, 19, 19, 20, 0, 20, 0, 20, 0, 20, 20, 20, 20, 20, 20, 20, 10, 10, 10, 1, 0, 0, 0, 1, 0, 0, 0, 1, 0, 0, 0, 0, 1, 2, 0, 3, 9, 0, 1, 2, 3, 4, 5, 6, 7, 8, 10, 10, 0, 0, 10, 0, 15, 0, 0, 0, 10, 0, 0, 0, 0, 0, 9, 0, 10, 12, 0, 0, 0, 12, 0, 0, 0, 12, 0, 0, 0, 0, 12, 11, 0, 0, 10, 0, 0, 0, 0, 0, 0, 0, 0, 0, 0, 0, 0, 10, 0, 21, 3, 11, 10, 13, 10, 10, 10, 0, 20, 0, 20, 0, 20, 20, 20, 20, 20, 20, 20, 10, 10, 10, 1, 0, 0, 0, 1, 0, 0, 0, 1, 0, 0, 0, 0, 1, 2, 0, 4, 9, 0, 1, 2, 3, 4, 5, 6, 7, 8, 10, 10, 0, 0, 10, 0, 16, 0, 0, 0, 10, 0, 15, 0, 0, 10, 0, 0, 10, 10, 0, 0, 0, 28, 1, 17, 0, 20, 0, 20, 0, 20, 20, 20, 20, 20, 20, 20, 10, 10, 10, 1, 0, 0, 0, 1, 0, 0, 0, 1, 0, 0, 0, 0, 1, 2, 0, 5, 9, 0, 1, 2, 3, 4, 5, 6, 7, 8, 10, 10, 0, 0, 10, 0, 17, 0, 0, 0, 10, 0, 15, 0, 0, 11, 0, 10, 12, 0, 0, 0, 12, 0, 0, 0, 12, 0, 0, 0, 0, 12, 11, 0, 0, 10, 0, 0, 0, 0, 0, 0, 0, 0, 0, 0, 0, 0, 10, 0, 23, 3, 11, 10, 13, 10, 10, 10, 0, 20, 0, 20, 0, 20, 20, 20, 20, 20, 20, 20, 10, 10, 10, 1, 0, 0, 0, 1, 0, 0, 0, 1, 0, 0, 0, 0, 1, 2, 0, 6, 9, 0, 1, 2, 3, 4, 5, 6, 7, 8, 10, 10, 0, 0, 10, 0, 18, 0, 0, 0, 10, 0, 17, 0, 0, 12, 0, 0, 10, 10, 0, 0, 0, 30, 1, 17, 0, 20, 0, 20, 0, 20, 20, 20, 20, 20, 20, 20, 10, 10, 10, 1, 0, 0, 0, 1, 0, 0, 0, 1, 0, 0, 0, 0, 1, 2, 0, 7, 9, 0, 1, 2, 3, 4, 5, 6, 7, 8, 10, 10, 0, 0, 10, 0, 19, 0, 0, 0, 10, 0, 17, 0, 0, 13, 0, 0, 10, 10, 0, 0, 0, 31, 1, 17, 0, 20, 0, 20, 0, 20, 20, 20, 20, 20, 20, 20, 10, 10, 10, 1, 0, 0, 0, 1, 0, 0, 0, 1, 0, 0, 0, 0, 1, 2, 0, 8, 9, 0, 1, 2, 3, 4, 5, 6, 7, 8, 10, 10, 0, 0, 10, 0, 20, 0, 0, 0, 10, 0, 17, 0, 0, 14, 0, 10, 12, 0, 0, 0, 12, 0, 0, 0, 12, 0, 0, 0, 0, 12, 11, 0, 0, 10, 0, 0, 0, 0, 0, 0, 0, 0, 0, 0, 0, 0, 10, 0, 26, 3, 11, 10, 13, 10, 10, 10, 0, 20, 0, 20, 0, 20, 20, 20, 25, 0, 10, 0, 0, 18, 18, 18, 0, 18, 0, 26, 26, 26, 26, 26, 18, 27, 27, 0, 27, 0, 28, 0, 28, 0, 28, 0, 28, 28, 27, 28, 28, 10, 10, 10, 1, 0, 0, 0, 1, 0, 0, 0, 1, 0, 0, 0, 0, 1, 2, 10, 0, 63, 3, 0, 1, 8, 0, 28, 0, 28, 0, 28, 28, 27, 28, 28, 10, 10, 10, 1, 0, 0, 0, 1, 0, 0, 0, 1, 0, 0, 0, 0, 1, 2, 10, 0, 63, 3, 0, 1, 8, 0, 28, 0, 28, 0, 28, 28, 27, 28, 28, 10, 10, 10, 1, 0, 0, 0, 1, 0, 0, 0, 1, 0, 0, 0, 0, 1, 2, 10, 0, 63, 3, 0, 1, 8, 0, 28, 0, 28, 0, 28, 28, 27, 28, 28, 30, 0, 10, 10, 10, 10, 10, 10, 0, 0, 0, 0, 0, 0, 33, 33, 0, 33, 0, 33, 33, 33, 0, 33, 0, 33, 33, 33, 34, 0, 34, 0, 34, 0, 34, 34, 34, 34, 34, 34, 34, 10, 10, 10, 12, 0, 0, 0, 12, 0, 0, 0, 12, 0, 0, 0, 0, 12, 11, 0, 0, 10, 0, 0, 0, 0, 0, 0, 0, 0, 0, 0, 0, 0, 0, 33, 6, 11, 10, 13, 20, 21, 22, 10, 10, 10, 10, 31, 31, 31, 31, 0, 0, 10, 0, 15, 0, 0, 31, 0, 31, 31, 31, 10, 32, 32, 32, 32, 0, 0, 10, 0, 15, 0, 0, 32, 0, 32, 32, 32, 10, 10, 10, 0, 34, 0, 34, 0, 34, 34, 34, 34, 34, 34, 34, 10, 10, 10, 12, 0, 0, 0, 12, 0, 0, 0, 12, 0, 0, 0, 0, 12, 11, 0, 0, 10, 0, 0, 0, 0, 0, 0, 0, 0, 0, 0, 0, 0, 0, 34, 6, 11, 10, 13, 20, 21, 22, 10, 10, 10, 10, 31, 31, 31, 31, 0, 0, 10, 1, 0, 0, 0, 1, 0, 0, 0, 1, 0, 0, 0, 0, 1, 2, 0, 64, 3, 0, 1, 8, 0, 52, 0, 0, 31, 0, 31, 31, 31, 10, 32, 32, 32, 32, 0, 0, 10, 18, 18, 18, 18, 0, 10, 0, 0, 10, 0, 15, 0, 0, 0, 0, 40, 1, 17, 0, 18, 46, 1, 17, 0, 58, 0, 0, 32, 0, 32, 32, 32, 0, 34, 0, 34, 0, 34, 34, 34, 34, 34, 34, 34, 10, 10, 10, 12, 0, 0, 0, 12, 0, 0, 0, 12, 0, 0, 0, 0, 12, 11, 0, 0, 10, 0, 0, 0, 0, 0, 0, 0, 0, 0, 0, 0, 0, 0, 35, 6, 11, 10, 13, 20, 21, 22, 10, 10, 10, 10, 31, 31, 31, 31, 0, 0, 10, 0, 17, 0, 0, 31, 0, 31, 31, 31, 10, 32, 32, 32, 32, 0, 0, 10, 0, 17, 0, 0, 32, 0, 32, 32, 32, 10, 10, 10, 0, 34, 0, 34, 0, 34, 34, 34, 34, 34, 34, 34, 10, 10, 10, 12, 0, 0, 0, 12, 0, 0, 0, 12, 0, 0, 0, 0, 12, 11, 0, 0, 10, 0, 0, 0, 0, 0, 0, 0, 0, 0, 0, 0, 0, 0, 36, 6, 11, 10, 13, 20, 21, 22, 10, 10, 10, 10, 31, 31, 31, 31, 0, 0, 10, 1, 0, 0, 0, 1, 0, 0, 0, 1, 0, 0, 0, 0, 1, 2, 0, 64, 3, 0, 1, 8, 0, 54, 0, 0, 31, 0, 31, 31, 31, 10, 32, 32, 32, 32, 0, 0, 10, 18, 18, 18, 18, 0, 10, 0, 0, 10, 0, 17, 0, 0, 0, 0, 42, 1, 17, 0, 18, 48, 1, 17, 0, 60, 0, 0, 32, 0, 32, 32, 32, 0, 34, 0, 34, 0, 34, 34, 34, 34, 34, 34, 34, 10, 10, 10, 12, 0, 0, 0, 12, 0, 0, 0, 12, 0, 0, 0, 0, 12, 11, 0, 0, 10, 0, 0, 0, 0, 0, 0, 0, 0, 0, 0, 0, 0, 0, 37, 6, 11, 10, 13, 20, 21, 22, 10, 10, 10, 10, 31, 31, 31, 31, 0, 0, 10, 1, 0, 0, 0, 1, 0, 0, 0, 1, 0, 0, 0, 0, 1, 2, 0, 64, 3, 0, 1, 8, 0, 55, 0, 0, 31, 0, 31, 31, 31, 10, 32, 32, 32, 32, 0, 0, 10, 18, 18, 18, 18, 0, 10, 0, 0, 10, 0, 17, 0, 0, 0, 0, 43, 1, 17, 0, 18, 49, 1, 17, 0, 61, 0, 0, 32, 0, 32, 32, 32, 0, 34, 0, 34, 0, 34, 34, 34, 34, 34, 34, 34, 10, 10, 10, 12, 0, 0, 0, 12, 0, 0, 0, 12, 0, 0, 0, 0, 12, 11, 0, 0, 10, 0, 0, 0, 0, 0, 0, 0, 0, 0, 0, 0, 0, 0, 38, 6, 11, 10, 13, 20, 21, 22, 10, 10, 10, 10, 31, 31, 31, 31, 0, 0, 10, 0, 20, 0, 0, 31, 0, 31, 31, 31, 10, 32, 32, 32, 32, 0, 0, 10, 0, 20, 0, 0, 32, 0, 32, 32, 32, 10, 10, 10, 0, 34, 0, 34, 0, 34, 34, 34, 36, 0, 10, 10, 36, 30, 31])
noncomputable def tgP0125 : Tg := (gl g0 [1, 0, 0, 10, 10, 0, 0, 0, 0, 0, 0, 0, 0, 0, 0, 0, 0, 0, 0, 0, 0, 0, 0, 0, 0, 0, 0, 0, 0, 0, 0, 0, 0, 0, 12, 0, 12, 0, 0, 0, 0, 1, 0, 0, 0, 13, 13, 13, 13, 13, 13, 13, 0, 0, 13, 0, 0, 14, 0, 0, 13, 13, 12, 0, 0, 0, 0, 12, 0, 0, 12, 0, 12, 0, 0, 0, 12, 0, 11, 11, 11, 13, 14, 14, 0, 14, 0, 15, 0, 15, 0, 15, 0, 15, 15, 14, 15, 15, 17, 0, 10, 10, 10, 10, 0, 0, 0, 0, 10, 10, 0, 0, 0, 0, 0, 0, 19, 19, 0, 19, 0, 19, 19, 19, 0, 19, 0, 19, 19, 19, 20, 0, 20, 0, 20, 0, 20, 20, 20, 20, 20, 20, 20, 10, 10, 10, 1, 0, 0, 0, 1, 0, 0, 0, 1, 0, 0, 0, 0, 1, 2, 0, 3, 9, 0, 1, 2, 3, 4, 5, 6, 7, 8, 10, 10, 0, 0, 10, 0, 15, 0, 0, 0, 10, 0, 0, 0, 0, 0, 9, 0, 10, 12, 0, 0, 0, 12, 0, 0, 0, 12, 0, 0, 0, 0, 12, 11, 0, 0, 10, 0, 0, 0, 0, 0, 0, 0, 0, 0, 0, 0, 0, 10, 0, 21, 3, 11, 10, 13, 10, 10, 10, 0, 20, 0, 20, 0, 20, 20, 20, 20, 20, 20, 20, 10, 10, 10, 1, 0, 0, 0, 1, 0, 0, 0, 1, 0, 0, 0, 0, 1, 2, 0, 4, 9, 0, 1, 2, 3, 4, 5, 6, 7, 8, 10, 10, 0, 0, 10, 0, 16, 0, 0, 0, 10, 0, 15, 0, 0, 10, 0, 10, 12, 0, 0, 0, 12, 0, 0, 0, 12, 0, 0, 0, 0, 12, 11, 0, 0, 10, 0, 0, 0, 0, 0, 0, 0, 0, 0, 0, 0, 0, 10, 0, 22, 3, 11, 10, 13, 10, 10, 10, 0, 20, 0, 20, 0, 20, 20, 20, 20, 20, 20, 20, 10, 10, 10, 1, 0, 0, 0, 1, 0, 0, 0, 1, 0, 0, 0, 0, 1, 2, 0, 5, 9, 0, 1, 2, 3, 4, 5, 6, 7, 8, 10, 10, 0, 0, 10, 0, 17, 0, 0, 0, 10, 0, 16, 0, 0, 11, 0, 10, 12, 0, 0, 0, 12, 0, 0, 0, 12, 0, 0, 0, 0, 12, 11, 0, 0, 10, 0, 0, 0, 0, 0, 0, 0, 0, 0, 0, 0, 0, 10, 0, 23, 3, 11, 10, 13, 10, 10, 10, 0, 20, 0, 20, 0, 20, 20, 20, 20, 20, 20, 20, 10, 10, 10, 1, 0, 0, 0, 1, 0, 0, 0, 1, 0, 0, 0, 0, 1, 2, 0, 6, 9, 0, 1, 2, 3, 4, 5, 6, 7, 8, 10, 10, 0, 0, 10, 0, 18, 0, 0, 0, 10, 0, 17, 0, 0, 12, 0, 0, 10, 10, 0, 0, 0, 30, 1, 17, 0, 20, 0, 20, 0, 20, 20, 20, 20, 20, 20, 20, 10, 10, 10, 1, 0, 0, 0, 1, 0, 0, 0, 1, 0, 0, 0, 0, 1, 2, 0, 7, 9, 0, 1, 2, 3, 4, 5, 6, 7, 8, 10, 10, 0, 0, 10, 0, 19, 0, 0, 0, 10, 0, 17, 0, 0, 13, 0, 0, 10, 10, 0, 0, 0, 31, 1, 17, 0, 20, 0, 20, 0, 20, 20, 20, 20, 20, 20, 20, 10, 10, 10, 1, 0, 0, 0, 1, 0, 0, 0, 1, 0, 0, 0, 0, 1, 2, 0, 8, 9, 0, 1, 2, 3, 4, 5, 6, 7, 8, 10, 10, 0, 0, 10, 0, 20, 0, 0, 0, 10, 0, 17, 0, 0, 14, 0, 10, 12, 0, 0, 0, 12, 0, 0, 0, 12, 0, 0, 0, 0, 12, 11, 0, 0, 10, 0, 0, 0, 0, 0, 0, 0, 0, 0, 0, 0, 0, 10, 0, 26, 3, 11, 10, 13, 10, 10, 10, 0, 20, 0, 20, 0, 20, 20, 20, 26, 0, 10, 0, 0, 18, 18, 18, 0, 18, 0, 27, 27, 27, 27, 27, 18, 28, 28, 0, 28, 0, 29, 0, 29, 0, 29, 0, 29, 29, 28, 29, 29, 10, 10, 10, 1, 0, 0, 0, 1, 0, 0, 0, 1, 0, 0, 0, 0, 1, 2, 10, 0, 63, 3, 0, 1, 8, 0, 29, 0, 29, 0, 29, 29, 28, 29, 29, 10, 10, 10, 1, 0, 0, 0, 1, 0, 0, 0, 1, 0, 0, 0, 0, 1, 2, 10, 0, 63, 3, 0, 1, 8, 0, 29, 0, 29, 0, 29, 29, 28, 29, 29, 31, 0, 10, 10, 10, 10, 10, 10, 0, 0, 0, 0, 0, 0, 34, 34, 0, 34, 0, 34, 34, 34, 0, 34, 0, 34, 34, 34, 35, 0, 35, 0, 35, 0, 35, 35, 35, 35, 35, 35, 35, 10, 10, 10, 12, 0, 0, 0, 12, 0, 0, 0, 12, 0, 0, 0, 0, 12, 11, 0, 0, 10, 0, 0, 0, 0, 0, 0, 0, 0, 0, 0, 0, 0, 0, 33, 7, 11, 10, 13, 20, 21, 22, 23, 10, 10, 10, 10, 32, 32, 32, 32, 0, 0, 10, 0, 15, 0, 0, 32, 0, 32, 32, 32, 10, 33, 33, 33, 33, 0, 0, 10, 0, 15, 0, 0, 33, 0, 33, 33, 33, 10, 10, 10, 0, 35, 0, 35, 0, 35, 35, 35, 35, 35, 35, 35, 10, 10, 10, 12, 0, 0, 0, 12, 0, 0, 0, 12, 0, 0, 0, 0, 12, 11, 0, 0, 10, 0, 0, 0, 0, 0, 0, 0, 0, 0, 0, 0, 0, 0, 34, 7, 11, 10, 13, 20, 21, 22, 23, 10, 10, 10, 10, 32, 32, 32, 32, 0, 0, 10, 0, 16, 0, 0, 32, 0, 32, 32, 32, 10, 33, 33, 33, 33, 0, 0, 10, 0, 16, 0, 0, 33, 0, 33, 33, 33, 10, 10, 10, 0, 35, 0, 35, 0, 35, 35, 35, 35, 35, 35, 35, 10, 10, 10, 12, 0, 0, 0, 12, 0, 0, 0, 12, 0, 0, 0, 0, 12, 11, 0, 0, 10, 0, 0, 0, 0, 0, 0, 0, 0, 0, 0, 0, 0, 0, 35, 7, 11, 10, 13, 20, 21, 22, 23, 10, 10, 10, 10, 32, 32, 32, 32, 0, 0, 10, 0, 17, 0, 0, 32, 0, 32, 32, 32, 10, 33, 33, 33, 33, 0, 0, 10, 0, 17, 0, 0, 33, 0, 33, 33, 33, 10, 10, 10, 0, 35, 0, 35, 0, 35, 35, 35, 35, 35, 35, 35, 10, 10, 10, 12, 0, 0, 0, 12, 0, 0, 0, 12, 0, 0, 0, 0, 12, 11, 0, 0, 10, 0, 0, 0, 0, 0, 0, 0, 0, 0, 0, 0, 0, 0, 36, 7, 11, 10, 13, 20, 21, 22, 23, 10, 10, 10, 10, 32, 32, 32, 32, 0, 0, 10, 1, 0, 0, 0, 1, 0, 0, 0, 1, 0, 0, 0, 0, 1, 2, 0, 64, 3, 0, 1, 8, 0, 54, 0, 0, 32, 0, 32, 32, 32, 10, 33, 33, 33, 33, 0, 0, 10, 18, 18, 18, 18, 0, 10, 0, 0, 10, 0, 17, 0, 0, 0, 0, 42, 1, 17, 0, 18, 48, 1, 17, 0, 60, 0, 0, 33, 0, 33, 33, 33, 0, 35, 0, 35, 0, 35, 35, 35, 35, 35, 35, 35, 10, 10, 10, 12, 0, 0, 0, 12, 0, 0, 0, 12, 0, 0, 0, 0, 12, 11, 0, 0, 10, 0, 0, 0, 0, 0, 0, 0, 0, 0, 0, 0, 0, 0, 37, 7, 11, 10, 13, 20, 21, 22, 23, 10, 10, 10, 10, 32, 32, 32, 32, 0, 0, 10, 1, 0, 0, 0, 1, 0, 0, 0, 1, 0, 0, 0, 0, 1, 2, 0, 64, 3, 0, 1, 8, 0, 55, 0, 0, 32, 0, 32, 32, 32, 10, 33, 33, 33, 33, 0, 0, 10, 18, 18, 18, 18, 0, 10, 0, 0, 10, 0, 17, 0, 0, 0, 0, 43, 1, 17, 0, 18, 49, 1, 17, 0, 61, 0, 0, 33, 0, 33, 33, 33, 0, 35, 0, 35, 0, 35, 35, 35, 35, 35, 35, 35, 10, 10, 10, 12, 0, 0, 0, 12, 0, 0, 0, 12, 0, 0, 0, 0, 12, 11, 0, 0, 10, 0, 0, 0, 0, 0, 0, 0, 0, 0, 0, 0, 0, 0, 38, 7, 11, 10, 13, 20, 21, 22, 23, 10, 10, 10, 10, 32, 32, 32, 32, 0, 0, 10, 0, 20, 0, 0, 32, 0, 32, 32, 32, 10, 33, 33, 33, 33, 0, 0, 10, 0, 20, 0, 0, 33, 0, 33, 33, 33, 10, 10, 10, 0, 35, 0, 35, 0, 35, 35, 35, 37, 0, 10, 10, 37, 31, 32])
noncomputable def tgP035 : Tg := (gl g0 [1, 0, 0, 10, 10, 0, 0, 0, 0, 0, 0, 0, 0, 0, 0, 0, 0, 0, 0, 0, 0, 0, 0, 0, 0, 0, 0, 0, 0, 0, 0, 0, 0, 0, 12, 0, 12, 0, 0, 0, 0, 1, 0, 0, 0, 13, 13, 13, 13, 13, 13, 13, 0, 0, 13, 0, 0, 14, 0, 0, 13, 13, 12, 0, 0, 0, 0, 12, 0, 0, 12, 0, 12, 0, 0, 0, 12, 0, 11, 11, 11, 13, 14, 14, 0, 14, 0, 15, 0, 15, 0, 15, 0, 15, 15, 14, 15, 15, 17, 0, 10, 10, 10, 10, 0, 0, 0, 0, 10, 10, 0, 0, 0, 0, 0, 0, 19, 19, 0, 19, 0, 19, 19, 19, 0, 19, 0, 19, 19, 19, 20, 0, 20, 0, 20, 0, 20, 20, 20, 20, 20, 20, 20, 10, 10, 10, 1, 0, 0, 0, 1, 0, 0, 0, 1, 0, 0, 0, 0, 1, 2, 0, 3, 9, 0, 1, 2, 3, 4, 5, 6, 7, 8, 10, 10, 0, 0, 10, 0, 15, 0, 0, 0, 10, 0, 0, 0, 0, 0, 9, 0, 10, 12, 0, 0, 0, 12, 0, 0, 0, 12, 0, 0, 0, 0, 12, 11, 0, 0, 10, 0, 0, 0, 0, 0, 0, 0, 0, 0, 0, 0, 0, 10, 0, 21, 3, 11, 10, 13, 10, 10, 10, 0, 20, 0, 20, 0, 20, 20, 20, 20, 20, 20, 20, 10, 10, 10, 1, 0, 0, 0, 1, 0, 0, 0, 1, 0, 0, 0, 0, 1, 2, 0, 4, 9, 0, 1, 2, 3, 4, 5, 6, 7, 8, 10, 10, 0, 0, 10, 0, 16, 0, 0, 0, 10, 0, 15, 0, 0, 10, 0, 0, 10, 10, 0, 0, 0, 28, 1, 17, 0, 20, 0, 20, 0, 20, 20, 20, 20, 20, 20, 20, 10, 10, 10, 1, 0, 0, 0, 1, 0, 0, 0, 1, 0, 0, 0, 0, 1, 2, 0, 5, 9, 0, 1, 2, 3, 4, 5, 6, 7, 8, 10, 10, 0, 0, 10, 0, 17, 0, 0, 0, 10, 0, 15, 0, 0, 11, 0, 0, 10, 10, 0, 0, 0, 29, 1, 17, 0, 20, 0, 20, 0, 20, 20, 20, 20, 20, 20, 20, 10, 10, 10, 1, 0, 0, 0, 1, 0, 0, 0, 1, 0, 0, 0, 0, 1, 2, 0, 6, 9, 0, 1, 2, 3, 4, 5, 6, 7, 8, 10, 10, 0, 0, 10, 0, 18, 0, 0, 0, 10, 0, 15, 0, 0, 12, 0, 10, 12, 0, 0, 0, 12, 0, 0, 0, 12, 0, 0, 0, 0, 12, 11, 0, 0, 10, 0, 0, 0, 0, 0, 0, 0, 0, 0, 0, 0, 0, 10, 0, 24, 3, 11, 10, 13, 10, 10, 10, 0, 20, 0, 20, 0, 20, 20, 20, 20, 20, 20, 20, 10, 10, 10, 1, 0, 0, 0, 1, 0, 0, 0, 1, 0, 0, 0, 0, 1, 2, 0, 7, 9, 0, 1, 2, 3, 4, 5, 6, 7, 8, 10, 10, 0, 0, 10, 0, 19, 0, 0, 0, 10, 0, 18, 0, 0, 13, 0, 0, 10, 10, 0, 0, 0, 31, 1, 17, 0, 20, 0, 20, 0, 20, 20, 20, 20, 20, 20, 20, 10, 10, 10, 1, 0, 0, 0, 1, 0, 0, 0, 1, 0, 0, 0, 0, 1, 2, 0, 8, 9, 0, 1, 2, 3, 4, 5, 6, 7, 8, 10, 10, 0, 0, 10, 0, 20, 0, 0, 0, 10, 0, 18, 0, 0, 14, 0, 10, 12, 0, 0, 0, 12, 0, 0, 0, 12, 0, 0, 0, 0, 12, 11, 0, 0, 10, 0, 0, 0, 0, 0, 0, 0, 0, 0, 0, 0, 0, 10, 0, 26, 3, 11, 10, 13, 10, 10, 10, 0, 20, 0, 20, 0, 20, 20, 20, 25, 0, 10, 0, 0, 18, 18, 18, 0, 18, 0, 26, 26, 26, 26, 26, 18, 27, 27, 0, 27, 0, 28, 0, 28, 0, 28, 0, 28, 28, 27, 28, 28, 10, 10, 10, 1, 0, 0, 0, 1, 0, 0, 0, 1, 0, 0, 0, 0, 1, 2, 10, 0, 63, 3, 0, 1, 8, 0, 28, 0, 28, 0, 28, 28, 27, 28, 28, 10, 10, 10, 1, 0, 0, 0, 1, 0, 0, 0, 1, 0, 0, 0, 0, 1, 2, 10, 0, 63, 3, 0, 1, 8, 0, 28, 0, 28, 0, 28, 28, 27, 28, 28, 10, 10, 10, 1, 0, 0, 0, 1, 0, 0, 0, 1, 0, 0, 0, 0, 1, 2, 10, 0, 63, 3, 0, 1, 8, 0, 28, 0, 28, 0, 28, 28, 27, 28, 28, 30, 0, 10, 10, 10, 10, 10, 10, 0, 0, 0, 0, 0, 0, 33, 33, 0, 33, 0, 33, 33, 33, 0, 33, 0, 33, 33, 33, 34, 0, 34, 0, 34, 0, 34, 34, 34, 34, 34, 34, 34, 10, 10, 10, 12, 0, 0, 0, 12, 0, 0, 0, 12, 0, 0, 0, 0, 12, 11, 0, 0, 10, 0, 0, 0, 0, 0, 0, 0, 0, 0, 0, 0, 0, 0, 33, 6, 11, 10, 13, 20, 21, 22, 10, 10, 10, 10, 31, 31, 31, 31, 0, 0, 10, 0, 15, 0, 0, 31, 0, 31, 31, 31, 10, 32, 32, 32, 32, 0, 0, 10, 0, 15, 0, 0, 32, 0, 32, 32, 32, 10, 10, 10, 0, 34, 0, 34, 0, 34, 34, 34, 34, 34, 34, 34, 10, 10, 10, 12, 0, 0, 0, 12, 0, 0, 0, 12, 0, 0, 0, 0, 12, 11, 0, 0, 10, 0, 0, 0, 0, 0, 0, 0, 0, 0, 0, 0, 0, 0, 34, 6, 11, 10, 13, 20, 21, 22, 10, 10, 10, 10, 31, 31, 31, 31, 0, 0, 10, 1, 0, 0, 0, 1, 0, 0, 0, 1, 0, 0, 0, 0, 1, 2, 0, 64, 3, 0, 1, 8, 0, 52, 0, 0, 31, 0, 31, 31, 31, 10, 32, 32, 32, 32, 0, 0, 10, 18, 18, 18, 18, 0, 10, 0, 0, 10, 0, 15, 0, 0, 0, 0, 40, 1, 17, 0, 18, 46, 1, 17, 0, 58, 0, 0, 32, 0, 32, 32, 32, 0, 34, 0, 34, 0, 34, 34, 34, 34, 34, 34, 34, 10, 10, 10, 12, 0, 0, 0, 12, 0, 0, 0, 12, 0, 0, 0, 0, 12, 11, 0, 0, 10, 0, 0, 0, 0, 0, 0, 0, 0, 0, 0, 0, 0, 0, 35, 6, 11, 10, 13, 20, 21, 22, 10, 10, 10, 10, 31, 31, 31, 31, 0, 0, 10, 1, 0, 0, 0, 1, 0, 0, 0, 1, 0, 0, 0, 0, 1, 2, 0, 64, 3, 0, 1, 8, 0, 53, 0, 0, 31, 0, 31, 31, 31, 10, 32, 32, 32, 32, 0, 0, 10, 18, 18, 18, 18, 0, 10, 0, 0, 10, 0, 15, 0, 0, 0, 0, 41, 1, 17, 0, 18, 47, 1, 17, 0, 59, 0, 0, 32, 0, 32, 32, 32, 0, 34, 0, 34, 0, 34, 34, 34, 34, 34, 34, 34, 10, 10, 10, 12, 0, 0, 0, 12, 0, 0, 0, 12, 0, 0, 0, 0, 12, 11, 0, 0, 10, 0, 0, 0, 0, 0, 0, 0, 0, 0, 0, 0, 0, 0, 36, 6, 11, 10, 13, 20, 21, 22, 10, 10, 10, 10, 31, 31, 31, 31, 0, 0, 10, 0, 18, 0, 0, 31, 0, 31, 31, 31, 10, 32, 32, 32, 32, 0, 0, 10, 0, 18, 0, 0, 32, 0, 32, 32, 32, 10, 10, 10, 0, 34, 0, 34, 0, 34, 34, 34, 34, 34, 34, 34, 10, 10, 10, 12, 0, 0, 0, 12, 0, 0, 0, 12, 0, 0, 0, 0, 12, 11, 0, 0, 10, 0, 0, 0, 0, 0, 0, 0, 0, 0, 0, 0, 0, 0, 37, 6, 11, 10, 13, 20, 21, 22, 10, 10, 10, 10, 31, 31, 31, 31, 0, 0, 10, 1, 0, 0, 0, 1, 0, 0, 0, 1, 0, 0, 0, 0, 1, 2, 0, 64, 3, 0, 1, 8, 0, 55, 0, 0, 31, 0, 31, 31, 31, 10, 32, 32, 32, 32, 0, 0, 10, 18, 18, 18, 18, 0, 10, 0, 0, 10, 0, 18, 0, 0, 0, 0, 43, 1, 17, 0, 18, 49, 1, 17, 0, 61, 0, 0, 32, 0, 32, 32, 32, 0, 34, 0, 34, 0, 34, 34, 34, 34, 34, 34, 34, 10, 10, 10, 12, 0, 0, 0, 12, 0, 0, 0, 12, 0, 0, 0, 0, 12, 11, 0, 0, 10, 0, 0, 0, 0, 0, 0, 0, 0, 0, 0, 0, 0, 0, 38, 6, 11, 10, 13, 20, 21, 22, 10, 10, 10, 10, 31, 31, 31, 31, 0, 0, 10, 0, 20, 0, 0, 31, 0, 31, 31, 31, 10, 32, 32, 32, 32, 0, 0, 10, 0, 20, 0, 0, 32, 0, 32, 32, 32, 10, 10, 10, 0, 34, 0, 34, 0, 34, 34, 34, 36, 0, 10, 10, 36, 30, 31])
noncomputable def tgP0135 : Tg := (gl g0 [1, 0, 0, 10, 10, 0, 0, 0, 0, 0, 0, 0, 0, 0, 0, 0, 0, 0, 0, 0, 0, 0, 0, 0, 0, 0, 0, 0, 0, 0, 0, 0, 0, 0, 12, 0, 12, 0, 0, 0, 0, 1, 0, 0, 0, 13, 13, 13, 13, 13, 13, 13, 0, 0, 13, 0, 0, 14, 0, 0, 13, 13, 12, 0, 0, 0, 0, 12, 0, 0, 12, 0, 12, 0, 0, 0, 12, 0, 11, 11, 11, 13, 14, 14, 0, 14, 0, 15, 0, 15, 0, 15, 0, 15, 15, 14, 15, 15, 17, 0, 10, 10, 10, 10, 0, 0, 0, 0, 10, 10, 0, 0, 0, 0, 0, 0, 19, 19, 0, 19, 0, 19, 19, 19, 0, 19, 0, 19, 19, 19, 20, 0, 20, 0, 20, 0, 20, 20, 20, 20, 20, 20, 20, 10, 10, 10, 1, 0, 0, 0, 1, 0, 0, 0, 1, 0, 0, 0, 0, 1, 2, 0, 3, 9, 0, 1, 2, 3, 4, 5, 6, 7, 8, 10, 10, 0, 0, 10, 0, 15, 0, 0, 0, 10, 0, 0, 0, 0, 0, 9, 0, 10, 12, 0, 0, 0, 12, 0, 0, 0, 12, 0, 0, 0, 0, 12, 11, 0, 0, 10, 0, 0, 0, 0, 0, 0, 0, 0, 0, 0, 0, 0, 10, 0, 21, 3, 11, 10, 13, 10, 10, 10, 0, 20, 0, 20, 0, 20, 20, 20, 20, 20, 20, 20, 10, 10, 10, 1, 0, 0, 0, 1, 0, 0, 0, 1, 0, 0, 0, 0, 1, 2, 0, 4, 9, 0, 1, 2, 3, 4, 5, 6, 7, 8, 10, 10, 0, 0, 10, 0, 16, 0, 0, 0, 10, 0, 15, 0, 0, 10, 0, 10, 12, 0, 0, 0, 12, 0, 0, 0, 12, 0, 0, 0, 0, 12, 11, 0, 0, 10, 0, 0, 0, 0, 0, 0, 0, 0, 0, 0, 0, 0, 10, 0, 22, 3, 11, 10, 13, 10, 10, 10, 0, 20, 0, 20, 0, 20, 20, 20, 20, 20, 20, 20, 10, 10, 10, 1, 0, 0, 0, 1, 0, 0, 0, 1, 0, 0, 0, 0, 1, 2, 0, 5, 9, 0, 1, 2, 3, 4, 5, 6, 7, 8, 10, 10, 0, 0, 10, 0, 17, 0, 0, 0, 10, 0, 16, 0, 0, 11, 0, 0, 10, 10, 0, 0, 0, 29, 1, 17, 0, 20, 0, 20, 0, 20, 20, 20, 20, 20, 20, 20, 10, 10, 10, 1, 0, 0, 0, 1, 0, 0, 0, 1, 0, 0, 0, 0, 1, 2, 0, 6, 9, 0, 1, 2, 3, 4, 5, 6, 7, 8, 10, 10, 0, 0, 10, 0, 18, 0, 0, 0, 10, 0, 16, 0, 0, 12, 0, 10, 12, 0, 0, 0, 12, 0, 0, 0, 12, 0, 0, 0, 0, 12, 11, 0, 0, 10, 0, 0, 0, 0, 0, 0, 0, 0, 0, 0, 0, 0, 10, 0, 24, 3, 11, 10, 13, 10, 10, 10, 0, 20, 0, 20, 0, 20, 20, 20, 20, 20, 20, 20, 10, 10, 10, 1, 0, 0, 0, 1, 0, 0, 0, 1, 0, 0, 0, 0, 1, 2, 0, 7, 9, 0, 1, 2, 3, 4, 5, 6, 7, 8, 10, 10, 0, 0, 10, 0, 19, 0, 0, 0, 10, 0, 18, 0, 0, 13, 0, 0, 10, 10, 0, 0, 0, 31, 1, 17, 0, 20, 0, 20, 0, 20, 20, 20, 20, 20, 20, 20, 10, 10, 10, 1, 0, 0, 0, 1, 0, 0, 0, 1, 0, 0, 0, 0, 1, 2, 0, 8, 9, 0, 1, 2, 3, 4, 5, 6, 7, 8, 10, 10, 0, 0, 10, 0, 20, 0, 0, 0, 10, 0, 18, 0, 0, 14, 0, 10, 12, 0, 0, 0, 12, 0, 0, 0, 12, 0, 0, 0, 0, 12, 11, 0, 0, 10, 0, 0, 0, 0, 0, 0, 0, 0, 0, 0, 0, 0, 10, 0, 26, 3, 11, 10, 13, 10, 10, 10, 0, 20, 0, 20, 0, 20, 20, 20, 26, 0, 10, 0, 0, 18, 18, 18, 0, 18, 0, 27, 27, 27, 27, 27, 18, 28, 28, 0, 28, 0, 29, 0, 29, 0, 29, 0, 29, 29, 28, 29, 29, 10, 10, 10, 1, 0, 0, 0, 1, 0, 0, 0, 1, 0, 0, 0, 0, 1, 2, 10, 0, 63, 3, 0, 1, 8, 0, 29, 0, 29, 0, 29, 29, 28, 29, 29, 10, 10, 10, 1, 0, 0, 0, 1, 0, 0, 0, 1, 0, 0, 0, 0, 1, 2, 10, 0, 63, 3, 0, 1, 8, 0, 29, 0, 29, 0, 29, 29, 28, 29, 29, 31, 0, 10, 10, 10, 10, 10, 10, 0, 0, 0, 0, 0, 0, 34, 34, 0, 34, 0, 34, 34, 34, 0, 34, 0, 34, 34, 34, 35, 0, 35, 0, 35, 0, 35, 35, 35, 35, 35, 35, 35, 10, 10, 10, 12, 0, 0, 0, 12, 0, 0, 0, 12, 0, 0, 0, 0, 12, 11, 0, 0, 10, 0, 0, 0, 0, 0, 0, 0, 0, 0, 0, 0, 0, 0, 33, 7, 11, 10, 13, 20, 21, 22, 23, 10, 10, 10, 10, 32, 32, 32, 32, 0, 0, 10, 0, 15, 0, 0, 32, 0, 32, 32, 32, 10, 33, 33, 33, 33, 0, 0, 10, 0, 15, 0, 0, 33, 0, 33, 33, 33, 10, 10, 10, 0, 35, 0, 35, 0, 35, 35, 35, 35, 35, 35, 35, 10, 10, 10, 12, 0, 0, 0, 12, 0, 0, 0, 12, 0, 0, 0, 0, 12, 11, 0, 0, 10, 0, 0, 0, 0, 0, 0, 0, 0, 0, 0, 0, 0, 0, 34, 7, 11, 10, 13, 20, 21, 22, 23, 10, 10, 10, 10, 32, 32, 32, 32, 0, 0, 10, 0, 16, 0, 0, 32, 0, 32, 32, 32, 10, 33, 33, 33, 33, 0, 0, 10, 0, 16, 0, 0, 33, 0, 33, 33, 33, 10, 10, 10, 0, 35, 0, 35, 0, 35, 35, 35, 35, 35, 35, 35, 10, 10, 10, 12, 0, 0, 0, 12, 0, 0, 0, 12, 0, 0, 0, 0, 12, 11, 0, 0, 10, 0, 0, 0, 0, 0, 0, 0, 0, 0, 0, 0, 0, 0, 35, 7, 11, 10, 13, 20, 21, 22, 23, 10, 10, 10, 10, 32, 32, 32, 32, 0, 0, 10, 1, 0, 0, 0, 1, 0, 0, 0, 1, 0, 0, 0, 0, 1, 2, 0, 64, 3, 0, 1, 8, 0, 53, 0, 0, 32, 0, 32, 32, 32, 10, 33, 33, 33, 33, 0, 0, 10, 18, 18, 18, 18, 0, 10, 0, 0, 10, 0, 16, 0, 0, 0, 0, 41, 1, 17, 0, 18, 47, 1, 17, 0, 59, 0, 0, 33, 0, 33, 33, 33, 0, 35, 0, 35, 0, 35, 35, 35, 35, 35, 35, 35, 10, 10, 10, 12, 0, 0, 0, 12, 0, 0, 0, 12, 0, 0, 0, 0, 12, 11, 0, 0, 10, 0, 0, 0, 0, 0, 0, 0, 0, 0, 0, 0, 0, 0, 36, 7, 11, 10, 13, 20, 21, 22, 23, 10, 10, 10, 10, 32, 32, 32, 32, 0, 0, 10, 0, 18, 0, 0, 32, 0, 32, 32, 32, 10, 33, 33, 33, 33, 0, 0, 10, 0, 18, 0, 0, 33, 0, 33, 33, 33, 10, 10, 10, 0, 35, 0, 35, 0, 35, 35, 35, 35, 35, 35, 35, 10, 10, 10, 12, 0, 0, 0, 12, 0, 0, 0, 12, 0, 0, 0, 0, 12, 11, 0, 0, 10, 0, 0, 0, 0, 0, 0, 0, 0, 0, 0, 0, 0, 0, 37, 7, 11, 10, 13, 20, 21, 22, 23, 10, 10, 10, 10, 32, 32, 32, 32, 0, 0, 10, 1, 0, 0, 0, 1, 0, 0, 0, 1, 0, 0, 0, 0, 1, 2, 0, 64, 3, 0, 1, 8, 0, 55, 0, 0, 32, 0, 32, 32, 32, 10, 33, 33, 33, 33, 0, 0, 10, 18, 18, 18, 18, 0, 10, 0, 0, 10, 0, 18, 0, 0, 0, 0, 43, 1, 17, 0, 18, 49, 1, 17, 0, 61, 0, 0, 33, 0, 33, 33, 33, 0, 35, 0, 35, 0, 35, 35, 35, 35, 35, 35, 35, 10, 10, 10, 12, 0, 0, 0, 12, 0, 0, 0, 12, 0, 0, 0, 0, 12, 11, 0, 0, 10, 0, 0, 0, 0, 0, 0, 0, 0, 0, 0, 0, 0, 0, 38, 7, 11, 10, 13, 20, 21, 22, 23, 10, 10, 10, 10, 32, 32, 32, 32, 0, 0, 10, 0, 20, 0, 0, 32, 0, 32, 32, 32, 10, 33, 33, 33, 33, 0, 0, 10, 0, 20, 0, 0, 33, 0, 33, 33, 33, 10, 10, 10, 0, 35, 0, 35, 0, 35, 35, 35, 37, 0, 10, 10, 37, 31, 32])
noncomputable def tgP0235 : Tg := (gl g0 [1, 0, 0, 10, 10, 0, 0, 0, 0, 0, 0, 0, 0, 0, 0, 0, 0, 0, 0, 0, 0, 0, 0, 0, 0, 0, 0, 0, 0, 0, 0, 0, 0, 0, 12, 0, 12, 0, 0, 0, 0, 1, 0, 0, 0, 13, 13, 13, 13, 13, 13, 13, 0, 0, 13, 0, 0, 14, 0, 0, 13, 13, 12, 0, 0, 0, 0, 12, 0, 0, 12, 0, 12, 0, 0, 0, 12, 0, 11, 11, 11, 13, 14, 14, 0, 14, 0, 15, 0, 15, 0, 15, 0, 15, 15, 14, 15, 15, 17, 0, 10, 10, 10, 10, 0, 0, 0, 0, 10, 10, 0, 0, 0, 0, 0, 0, 19, 19, 0, 19, 0, 19, 19, 19, 0, 19, 0, 19, 19, 19, 20, 0, 20, 0, 20, 0, 20, 20, 20, 20, 20, 20, 20, 10, 10, 10, 1, 0, 0, 0, 1, 0, 0, 0, 1, 0, 0, 0, 0, 1, 2, 0, 3, 9, 0, 1, 2, 3, 4, 5, 6, 7, 8, 10, 10, 0, 0, 10, 0, 15, 0, 0, 0, 10, 0, 0, 0, 0, 0, 9, 0, 10, 12, 0, 0, 0, 12, 0, 0, 0, 12, 0, 0, 0, 0, 12, 11, 0, 0, 10, 0, 0, 0, 0, 0, 0, 0, 0, 0, 0, 0, 0, 10, 0, 21, 3, 11, 10, 13, 10, 10, 10, 0, 20, 0, 20, 0, 20, 20, 20, 20, 20, 20, 20, 10, 10, 10, 1, 0, 0, 0, 1, 0, 0, 0, 1, 0, 0, 0, 0, 1, 2, 0, 4, 9, 0, 1, 2, 3, 4, 5, 6, 7, 8, 10, 10, 0, 0, 10, 0, 16, 0, 0, 0, 10, 0, 15, 0, 0, 10, 0, 0, 10, 10, 0, 0, 0, 28, 1, 17, 0, 20, 0, 20, 0, 20, 20, 20, 20, 20, 20, 20, 10, 10, 10, 1, 0, 0, 0, 1, 0, 0, 0, 1, 0, 0, 0, 0, 1, 2, 0, 5, 9, 0, 1, 2, 3, 4, 5, 6, 7, 8, 10, 10, 0, 0, 10, 0, 17, 0, 0, 0, 10, 0, 15, 0, 0, 11, 0, 10, 12, 0, 0, 0, 12, 0, 0, 0, 12, 0, 0, 0, 0, 12, 11, 0, 0, 10, 0, 0, 0, 0, 0, 0, 0, 0, 0, 0, 0, 0, 10, 0, 23, 3, 11, 10, 13, 10, 10, 10, 0, 20, 0, 20, 0, 20, 20, 20, 20, 20, 20, 20, 10, 10, 10, 1, 0, 0, 0, 1, 0, 0, 0, 1, 0, 0, 0, 0, 1, 2, 0, 6, 9, 0, 1, 2, 3, 4, 5, 6, 7, 8, 10, 10, 0, 0, 10, 0, 18, 0, 0, 0, 10, 0, 17, 0, 0, 12, 0, 10, 12, 0, 0, 0, 12, 0, 0, 0, 12, 0, 0, 0, 0, 12, 11, 0, 0, 10, 0, 0, 0, 0, 0, 0, 0, 0, 0, 0, 0, 0, 10, 0, 24, 3, 11, 10, 13, 10, 10, 10, 0, 20, 0, 20, 0, 20, 20, 20, 20, 20, 20, 20, 10, 10, 10, 1, 0, 0, 0, 1, 0, 0, 0, 1, 0, 0, 0, 0, 1, 2, 0, 7, 9, 0, 1, 2, 3, 4, 5, 6, 7, 8, 10, 10, 0, 0, 10, 0, 19, 0, 0, 0, 10, 0, 18, 0, 0, 13, 0, 0, 10, 10, 0, 0, 0, 31, 1, 17, 0, 20, 0, 20, 0, 20, 20, 20, 20, 20, 20, 20, 10, 10, 10, 1, 0, 0, 0, 1, 0, 0, 0, 1, 0, 0, 0, 0, 1, 2, 0, 8, 9, 0, 1, 2, 3, 4, 5, 6, 7, 8, 10, 10, 0, 0, 10, 0, 20, 0, 0, 0, 10, 0, 18, 0, 0, 14, 0, 10, 12, 0, 0, 0, 12, 0, 0, 0, 12, 0, 0, 0, 0, 12, 11, 0, 0, 10, 0, 0, 0, 0, 0, 0, 0, 0, 0, 0, 0, 0, 10, 0, 26, 3, 11, 10, 13, 10, 10, 10, 0, 20, 0, 20, 0, 20, 20, 20, 26, 0, 10, 0, 0, 18, 18, 18, 0, 18, 0, 27, 27, 27, 27, 27, 18, 28, 28, 0, 28, 0, 29, 0, 29, 0, 29, 0, 29, 29, 28, 29, 29, 10, 10, 10, 1, 0, 0, 0, 1, 0, 0, 0, 1, 0, 0, 0, 0, 1, 2, 10, 0, 63, 3, 0, 1, 8, 0, 29, 0, 29, 0, 29, 29, 28, 29, 29, 10, 10, 10, 1, 0, 0, 0, 1, 0, 0, 0, 1, 0, 0, 0, 0, 1, 2, 10, 0, 63, 3, 0, 1, 8, 0, 29, 0, 29, 0, 29, 29, 28, 29, 29, 31, 0, 10, 10, 10, 10, 10, 10, 0, 0, 0, 0, 0, 0, 34, 34, 0, 34, 0, 34, 34, 34, 0, 34, 0, 34, 34, 34, 35, 0, 35, 0, 35, 0, 35, 35, 35, 35, 35, 35, 35, 10, 10, 10, 12, 0, 0, 0, 12, 0, 0, 0, 12, 0, 0, 0, 0, 12, 11, 0, 0, 10, 0, 0, 0, 0, 0, 0, 0, 0, 0, 0, 0, 0, 0, 33, 7, 11, 10, 13, 20, 21, 22, 23, 10, 10, 10, 10, 32, 32, 32, 32, 0, 0, 10, 0, 15, 0, 0, 32, 0, 32, 32, 32, 10, 33, 33, 33, 33, 0, 0, 10, 0, 15, 0, 0, 33, 0, 33, 33, 33, 10, 10, 10, 0, 35, 0, 35, 0, 35, 35, 35, 35, 35, 35, 35, 10, 10, 10, 12, 0, 0, 0, 12, 0, 0, 0, 12, 0, 0, 0, 0, 12, 11, 0, 0, 10, 0, 0, 0, 0, 0, 0, 0, 0, 0, 0, 0, 0, 0, 34, 7, 11, 10, 13, 20, 21, 22, 23, 10, 10, 10, 10, 32, 32, 32, 32, 0, 0, 10, 1, 0, 0, 0, 1, 0, 0, 0, 1, 0, 0, 0, 0, 1, 2, 0, 64, 3, 0, 1, 8, 0, 52, 0, 0, 32, 0, 32, 32, 32, 10, 33, 33, 33, 33, 0, 0, 10, 18, 18, 18, 18, 0, 10, 0, 0, 10, 0, 15, 0, 0, 0, 0, 40, 1, 17, 0, 18, 46, 1, 17, 0, 58, 0, 0, 33, 0, 33, 33, 33, 0, 35, 0, 35, 0, 35, 35, 35, 35, 35, 35, 35, 10, 10, 10, 12, 0, 0, 0, 12, 0, 0, 0, 12, 0, 0, 0, 0, 12, 11, 0, 0, 10, 0, 0, 0, 0, 0, 0, 0, 0, 0, 0, 0, 0, 0, 35, 7, 11, 10, 13, 20, 21, 22, 23, 10, 10, 10, 10, 32, 32, 32, 32, 0, 0, 10, 0, 17, 0, 0, 32, 0, 32, 32, 32, 10, 33, 33, 33, 33, 0, 0, 10, 0, 17, 0, 0, 33, 0, 33, 33, 33, 10, 10, 10, 0, 35, 0, 35, 0, 35, 35, 35, 35, 35, 35, 35, 10, 10, 10, 12, 0, 0, 0, 12, 0, 0, 0, 12, 0, 0, 0, 0, 12, 11, 0, 0, 10, 0, 0, 0, 0, 0, 0, 0, 0, 0, 0, 0, 0, 0, 36, 7, 11, 10, 13, 20, 21, 22, 23, 10, 10, 10, 10, 32, 32, 32, 32, 0, 0, 10, 0, 18, 0, 0, 32, 0, 32, 32, 32, 10, 33, 33, 33, 33, 0, 0, 10, 0, 18, 0, 0, 33, 0, 33, 33, 33, 10, 10, 10, 0, 35, 0, 35, 0, 35, 35, 35, 35, 35, 35, 35, 10, 10, 10, 12, 0, 0, 0, 12, 0, 0, 0, 12, 0, 0, 0, 0, 12, 11, 0, 0, 10, 0, 0, 0, 0, 0, 0, 0, 0, 0, 0, 0, 0, 0, 37, 7, 11, 10, 13, 20, 21, 22, 23, 10, 10, 10, 10, 32, 32, 32, 32, 0, 0, 10, 1, 0, 0, 0, 1, 0, 0, 0, 1, 0, 0, 0, 0, 1, 2, 0, 64, 3, 0, 1, 8, 0, 55, 0, 0, 32, 0, 32, 32, 32, 10, 33, 33, 33, 33, 0, 0, 10, 18, 18, 18, 18, 0, 10, 0, 0, 10, 0, 18, 0, 0, 0, 0, 43, 1, 17, 0, 18, 49, 1, 17, 0, 61, 0, 0, 33, 0, 33, 33, 33, 0, 35, 0, 35, 0, 35, 35, 35, 35, 35, 35, 35, 10, 10, 10, 12, 0, 0, 0, 12, 0, 0, 0, 12, 0, 0, 0, 0, 12, 11, 0, 0, 10, 0, 0, 0, 0, 0, 0, 0, 0, 0, 0, 0, 0, 0, 38, 7, 11, 10, 13, 20, 21, 22, 23, 10, 10, 10, 10, 32, 32, 32, 32, 0, 0, 10, 0, 20, 0, 0, 32, 0, 32, 32, 32, 10, 33, 33, 33, 33, 0, 0, 10, 0, 20, 0, 0, 33, 0, 33, 33, 33, 10, 10, 10, 0, 35, 0, 35, 0, 35, 35, 35, 37, 0, 10, 10, 37, 31, 32])
noncomputable def tgP01235 : Tg := (gl g0 [1, 0, 0, 10, 10, 0, 0, 0, 0, 0, 0, 0, 0, 0, 0, 0, 0, 0, 0, 0, 0, 0, 0, 0, 0, 0, 0, 0, 0, 0, 0, 0, 0, 0, 12, 0, 12, 0, 0, 0, 0, 1, 0, 0, 0, 13, 13, 13, 13, 13, 13, 13, 0, 0, 13, 0, 0, 14, 0, 0, 13, 13, 12, 0, 0, 0, 0, 12, 0, 0, 12, 0, 12, 0, 0, 0, 12, 0, 11, 11, 11, 13, 14, 14, 0, 14, 0, 15, 0, 15, 0, 15, 0, 15, 15, 14, 15, 15, 17, 0, 10, 10, 10, 10, 0, 0, 0, 0, 10, 10, 0, 0, 0, 0, 0, 0, 19, 19, 0, 19, 0, 19, 19, 19, 0, 19, 0, 19, 19, 19, 20, 0, 20, 0, 20, 0, 20, 20, 20, 20, 20, 20, 20, 10, 10, 10, 1, 0, 0, 0, 1, 0, 0, 0, 1, 0, 0, 0, 0, 1, 2, 0, 3, 9, 0, 1, 2, 3, 4, 5, 6, 7, 8, 10, 10, 0, 0, 10, 0, 15, 0, 0, 0, 10, 0, 0, 0, 0, 0, 9, 0, 10, 12, 0, 0, 0, 12, 0, 0, 0, 12, 0, 0, 0, 0, 12, 11, 0, 0, 10, 0, 0, 0, 0, 0, 0, 0, 0, 0, 0, 0, 0, 10, 0, 21, 3, 11, 10, 13, 10, 10, 10, 0, 20, 0, 20, 0, 20, 20, 20, 20, 20, 20, 20, 10, 10, 10, 1, 0, 0, 0, 1, 0, 0, 0, 1, 0, 0, 0, 0, 1, 2, 0, 4, 9, 0, 1, 2, 3, 4, 5, 6, 7, 8, 10, 10, 0, 0, 10, 0, 16, 0, 0, 0, 10, 0, 15, 0, 0, 10, 0, 10, 12, 0, 0, 0, 12, 0, 0, 0, 12, 0, 0, 0, 0, 12, 11, 0, 0, 10, 0, 0, 0, 0, 0, 0, 0, 0, 0, 0, 0, 0, 10, 0, 22, 3, 11, 10, 13, 10, 10, 10, 0, 20, 0, 20, 0, 20, 20, 20, 20, 20, 20, 20, 10, 10, 10, 1, 0, 0, 0, 1, 0, 0, 0, 1, 0, 0, 0, 0, 1, 2, 0, 5, 9, 0, 1, 2, 3, 4, 5, 6, 7, 8, 10, 10, 0, 0, 10, 0, 17, 0, 0, 0, 10, 0, 16, 0, 0, 11, 0, 10, 12, 0, 0, 0, 12, 0, 0, 0, 12, 0, 0, 0, 0, 12, 11, 0, 0, 10, 0, 0, 0, 0, 0, 0, 0, 0, 0, 0, 0, 0, 10, 0, 23, 3, 11, 10, 13, 10, 10, 10, 0, 20, 0, 20, 0, 20, 20, 20, 20, 20, 20, 20, 10, 10, 10, 1, 0, 0, 0, 1, 0, 0, 0, 1, 0, 0, 0, 0, 1, 2, 0, 6, 9, 0, 1, 2, 3, 4, 5, 6, 7, 8, 10, 10, 0, 0, 10, 0, 18, 0, 0, 0, 10, 0, 17, 0, 0, 12, 0, 10, 12, 0, 0, 0, 12, 0, 0, 0, 12, 0, 0, 0, 0, 12, 11, 0, 0, 10, 0, 0, 0, 0, 0, 0, 0, 0, 0, 0, 0, 0, 10, 0, 24, 3, 11, 10, 13, 10, 10, 10, 0, 20, 0, 20, 0, 20, 20, 20, 20, 20, 20, 20, 10, 10, 10, 1, 0, 0, 0, 1, 0, 0, 0, 1, 0, 0, 0, 0, 1, 2, 0, 7, 9, 0, 1, 2, 3, 4, 5, 6, 7, 8, 10, 10, 0, 0, 10, 0, 19, 0, 0, 0, 10, 0, 18, 0, 0, 13, 0, 0, 10, 10, 0, 0, 0, 31, 1, 17, 0, 20, 0, 20, 0, 20, 20, 20, 20, 20, 20, 20, 10, 10, 10, 1, 0, 0, 0, 1, 0, 0, 0, 1, 0, 0, 0, 0, 1, 2, 0, 8, 9, 0, 1, 2, 3, 4, 5, 6, 7, 8, 10, 10, 0, 0, 10, 0, 20, 0, 0, 0, 10, 0, 18, 0, 0, 14, 0, 10, 12, 0, 0, 0, 12, 0, 0, 0, 12, 0, 0, 0, 0, 12, 11, 0, 0, 10, 0, 0, 0, 0, 0, 0, 0, 0, 0, 0, 0, 0, 10, 0, 26, 3, 11, 10, 13, 10, 10, 10, 0, 20, 0, 20, 0, 20, 20, 20, 27, 0, 10, 0, 0, 18, 18, 18, 0, 18, 0, 28, 28, 28, 28, 28, 18, 29, 29, 0, 29, 0, 30, 0, 30, 0, 30, 0, 30, 30, 29, 30, 30, 10, 10, 10, 1, 0, 0, 0, 1, 0, 0, 0, 1, 0, 0, 0, 0, 1, 2, 10, 0, 63, 3, 0, 1, 8, 0, 30, 0, 30, 0, 30, 30, 29, 30, 30, 32, 0, 10, 10, 10, 10, 10, 10, 0, 0, 0, 0, 0, 0, 35, 35, 0, 35, 0, 35, 35, 35, 0, 35, 0, 35, 35, 35, 36, 0, 36, 0, 36, 0, 36, 36, 36, 36, 36, 36, 36, 10, 10, 10, 12, 0, 0, 0, 12, 0, 0, 0, 12, 0, 0, 0, 0, 12, 11, 0, 0, 10, 0, 0, 0, 0, 0, 0, 0, 0, 0, 0, 0, 0, 0, 33, 8, 11, 10, 13, 20, 21, 22, 23, 24, 10, 10, 10, 10, 33, 33, 33, 33, 0, 0, 10, 0, 15, 0, 0, 33, 0, 33, 33, 33, 10, 34, 34, 34, 34, 0, 0, 10, 0, 15, 0, 0, 34, 0, 34, 34, 34, 10, 10, 10, 0, 36, 0, 36, 0, 36, 36, 36, 36, 36, 36, 36, 10, 10, 10, 12, 0, 0, 0, 12, 0, 0, 0, 12, 0, 0, 0, 0, 12, 11, 0, 0, 10, 0, 0, 0, 0, 0, 0, 0, 0, 0, 0, 0, 0, 0, 34, 8, 11, 10, 13, 20, 21, 22, 23, 24, 10, 10, 10, 10, 33, 33, 33, 33, 0, 0, 10, 0, 16, 0, 0, 33, 0, 33, 33, 33, 10, 34, 34, 34, 34, 0, 0, 10, 0, 16, 0, 0, 34, 0, 34, 34, 34, 10, 10, 10, 0, 36, 0, 36, 0, 36, 36, 36, 36, 36, 36, 36, 10, 10, 10, 12, 0, 0, 0, 12, 0, 0, 0, 12, 0, 0, 0, 0, 12, 11, 0, 0, 10, 0, 0, 0, 0, 0, 0, 0, 0, 0, 0, 0, 0, 0, 35, 8, 11, 10, 13, 20, 21, 22, 23, 24, 10, 10, 10, 10, 33, 33, 33, 33, 0, 0, 10, 0, 17, 0, 0, 33, 0, 33, 33, 33, 10, 34, 34, 34, 34, 0, 0, 10, 0, 17, 0, 0, 34, 0, 34, 34, 34, 10, 10, 10, 0, 36, 0, 36, 0, 36, 36, 36, 36, 36, 36, 36, 10, 10, 10, 12, 0, 0, 0, 12, 0, 0, 0, 12, 0, 0, 0, 0, 12, 11, 0, 0, 10, 0, 0, 0, 0, 0, 0, 0, 0, 0, 0, 0, 0, 0, 36, 8, 11, 10, 13, 20, 21, 22, 23, 24, 10, 10, 10, 10, 33, 33, 33, 33, 0, 0, 10, 0, 18, 0, 0, 33, 0, 33, 33, 33, 10, 34, 34, 34, 34, 0, 0, 10, 0, 18, 0, 0, 34, 0, 34, 34, 34, 10, 10, 10, 0, 36, 0, 36, 0, 36, 36, 36, 36, 36, 36, 36, 10, 10, 10, 12, 0, 0, 0, 12, 0, 0, 0, 12, 0, 0, 0, 0, 12, 11, 0, 0, 10, 0, 0, 0, 0, 0, 0, 0, 0, 0, 0, 0, 0, 0, 37, 8, 11, 10, 13, 20, 21, 22, 23, 24, 10, 10, 10, 10, 33, 33, 33, 33, 0, 0, 10, 1, 0, 0, 0, 1, 0, 0, 0, 1, 0, 0, 0, 0, 1, 2, 0, 64, 3, 0, 1, 8, 0, 55, 0, 0, 33, 0, 33, 33, 33, 10, 34, 34, 34, 34, 0, 0, 10, 18, 18, 18, 18, 0, 10, 0, 0, 10, 0, 18, 0, 0, 0, 0, 43, 1, 17, 0, 18, 49, 1, 17, 0, 61, 0, 0, 34, 0, 34, 34, 34, 0, 36, 0, 36, 0, 36, 36, 36, 36, 36, 36, 36, 10, 10, 10, 12, 0, 0, 0, 12, 0, 0, 0, 12, 0, 0, 0, 0, 12, 11, 0, 0, 10, 0, 0, 0, 0, 0, 0, 0, 0, 0, 0, 0, 0, 0, 38, 8, 11, 10, 13, 20, 21, 22, 23, 24, 10, 10, 10, 10, 33, 33, 33, 33, 0, 0, 10, 0, 20, 0, 0, 33, 0, 33, 33, 33, 10, 34, 34, 34, 34, 0, 0, 10, 0, 20, 0, 0, 34, 0, 34, 34, 34, 10, 10, 10, 0, 36, 0, 36, 0, 36, 36, 36, 38, 0, 10, 10, 38, 32, 33])
noncomputable def tgP045 : Tg := (gl g0 [1, 0, 0, 10, 10, 0, 0, 0, 0, 0, 0, 0, 0, 0, 0, 0, 0, 0, 0, 0, 0, 0, 0, 0, 0, 0, 0, 0, 0, 0, 0, 0, 0, 0, 12, 0, 12, 0, 0, 0, 0, 1, 0, 0, 0, 13, 13, 13, 13, 13, 13, 13, 0, 0, 13, 0, 0, 14, 0, 0, 13, 13, 12, 0, 0, 0, 0, 12, 0, 0, 12, 0, 12, 0, 0, 0, 12, 0, 11, 11, 11, 13, 14, 14, 0, 14, 0, 15, 0, 15, 0, 15, 0, 15, 15, 14, 15, 15, 17, 0, 10, 10, 10, 10, 0, 0, 0, 0, 10, 10, 0, 0, 0, 0, 0, 0, 19, 19, 0, 19, 0, 19, 19, 19, 0, 19, 0, 19, 19, 19, 20, 0, 20, 0, 20, 0, 20, 20, 20, 20, 20, 20, 20, 10, 10, 10, 1, 0, 0, 0, 1, 0, 0, 0, 1, 0, 0, 0, 0, 1, 2, 0, 3, 9, 0, 1, 2, 3, 4, 5, 6, 7, 8, 10, 10, 0, 0, 10, 0, 15, 0, 0, 0, 10, 0, 0, 0, 0, 0, 9, 0, 10, 12, 0, 0, 0, 12, 0, 0, 0, 12, 0, 0, 0, 0, 12, 11, 0, 0, 10, 0, 0, 0, 0, 0, 0, 0, 0, 0, 0, 0, 0, 10, 0, 21, 3, 11, 10, 13, 10, 10, 10, 0, 20, 0, 20, 0, 20, 20, 20, 20, 20, 20, 20, 10, 10, 10, 1, 0, 0, 0, 1, 0, 0, 0, 1, 0, 0, 0, 0, 1, 2, 0, 4, 9, 0, 1, 2, 3, 4, 5, 6, 7, 8, 10, 10, 0, 0, 10, 0, 16, 0, 0, 0, 10, 0, 15, 0, 0, 10, 0, 0, 10, 10, 0, 0, 0, 28, 1, 17, 0, 20, 0, 20, 0, 20, 20, 20, 20, 20, 20, 20, 10, 10, 10, 1, 0, 0, 0, 1, 0, 0, 0, 1, 0, 0, 0, 0, 1, 2, 0, 5, 9, 0, 1, 2, 3, 4, 5, 6, 7, 8, 10, 10, 0, 0, 10, 0, 17, 0, 0, 0, 10, 0, 15, 0, 0, 11, 0, 0, 10, 10, 0, 0, 0, 29, 1, 17, 0, 20, 0, 20, 0, 20, 20, 20, 20, 20, 20, 20, 10, 10, 10, 1, 0, 0, 0, 1, 0, 0, 0, 1, 0, 0, 0, 0, 1, 2, 0, 6, 9, 0, 1, 2, 3, 4, 5, 6, 7, 8, 10, 10, 0, 0, 10, 0, 18, 0, 0, 0, 10, 0, 15, 0, 0, 12, 0, 0, 10, 10, 0, 0, 0, 30, 1, 17, 0, 20, 0, 20, 0, 20, 20, 20, 20, 20, 20, 20, 10, 10, 10, 1, 0, 0, 0, 1, 0, 0, 0, 1, 0, 0, 0, 0, 1, 2, 0, 7, 9, 0, 1, 2, 3, 4, 5, 6, 7, 8, 10, 10, 0, 0, 10, 0, 19, 0, 0, 0, 10, 0, 15, 0, 0, 13, 0, 10, 12, 0, 0, 0, 12, 0, 0, 0, 12, 0, 0, 0, 0, 12, 11, 0, 0, 10, 0, 0, 0, 0, 0, 0, 0, 0, 0, 0, 0, 0, 10, 0, 25, 3, 11, 10, 13, 10, 10, 10, 0, 20, 0, 20, 0, 20, 20, 20, 20, 20, 20, 20, 10, 10, 10, 1, 0, 0, 0, 1, 0, 0, 0, 1, 0, 0, 0, 0, 1, 2, 0, 8, 9, 0, 1, 2, 3, 4, 5, 6, 7, 8, 10, 10, 0, 0, 10, 0, 20, 0, 0, 0, 10, 0, 19, 0, 0, 14, 0, 10, 12, 0, 0, 0, 12, 0, 0, 0, 12, 0, 0, 0, 0, 12, 11, 0, 0, 10, 0, 0, 0, 0, 0, 0, 0, 0, 0, 0, 0, 0, 10, 0, 26, 3, 11, 10, 13, 10, 10, 10, 0, 20, 0, 20, 0, 20, 20, 20, 25, 0, 10, 0, 0, 18, 18, 18, 0, 18, 0, 26, 26, 26, 26, 26, 18, 27, 27, 0, 27, 0, 28, 0, 28, 0, 28, 0, 28, 28, 27, 28, 28, 10, 10, 10, 1, 0, 0, 0, 1, 0, 0, 0, 1, 0, 0, 0, 0, 1, 2, 10, 0, 63, 3, 0, 1, 8, 0, 28, 0, 28, 0, 28, 28, 27, 28, 28, 10, 10, 10, 1, 0, 0, 0, 1, 0, 0, 0, 1, 0, 0, 0, 0, 1, 2, 10, 0, 63, 3, 0, 1, 8, 0, 28, 0, 28, 0, 28, 28, 27, 28, 28, 10, 10, 10, 1, 0, 0, 0, 1, 0, 0, 0, 1, 0, 0, 0, 0, 1, 2, 10, 0, 63, 3, 0, 1, 8, 0, 28, 0, 28, 0, 28, 28, 27, 28, 28, 30, 0, 10, 10, 10, 10, 10, 10, 0, 0, 0, 0, 0, 0, 33, 33, 0, 33, 0, 33, 33, 33, 0, 33, 0, 33, 33, 33, 34, 0, 34, 0, 34, 0, 34, 34, 34, 34, 34, 34, 34, 10, 10, 10, 12, 0, 0, 0, 12, 0, 0, 0, 12, 0, 0, 0, 0, 12, 11, 0, 0, 10, 0, 0, 0, 0, 0, 0, 0, 0, 0, 0, 0, 0, 0, 33, 6, 11, 10, 13, 20, 21, 22, 10, 10, 10, 10, 31, 31, 31, 31, 0, 0, 10, 0, 15, 0, 0, 31, 0, 31, 31, 31, 10, 32, 32, 32, 32, 0, 0, 10, 0, 15, 0, 0, 32, 0, 32, 32, 32, 10, 10, 10, 0, 34, 0, 34, 0, 34, 34, 34, 34, 34, 34, 34, 10, 10, 10, 12, 0, 0, 0, 12, 0, 0, 0, 12, 0, 0, 0, 0, 12, 11, 0, 0, 10, 0, 0, 0, 0, 0, 0, 0, 0, 0, 0, 0, 0, 0, 34, 6, 11, 10, 13, 20, 21, 22, 10, 10, 10, 10, 31, 31, 31, 31, 0, 0, 10, 1, 0, 0, 0, 1, 0, 0, 0, 1, 0, 0, 0, 0, 1, 2, 0, 64, 3, 0, 1, 8, 0, 52, 0, 0, 31, 0, 31, 31, 31, 10, 32, 32, 32, 32, 0, 0, 10, 18, 18, 18, 18, 0, 10, 0, 0, 10, 0, 15, 0, 0, 0, 0, 40, 1, 17, 0, 18, 46, 1, 17, 0, 58, 0, 0, 32, 0, 32, 32, 32, 0, 34, 0, 34, 0, 34, 34, 34, 34, 34, 34, 34, 10, 10, 10, 12, 0, 0, 0, 12, 0, 0, 0, 12, 0, 0, 0, 0, 12, 11, 0, 0, 10, 0, 0, 0, 0, 0, 0, 0, 0, 0, 0, 0, 0, 0, 35, 6, 11, 10, 13, 20, 21, 22, 10, 10, 10, 10, 31, 31, 31, 31, 0, 0, 10, 1, 0, 0, 0, 1, 0, 0, 0, 1, 0, 0, 0, 0, 1, 2, 0, 64, 3, 0, 1, 8, 0, 53, 0, 0, 31, 0, 31, 31, 31, 10, 32, 32, 32, 32, 0, 0, 10, 18, 18, 18, 18, 0, 10, 0, 0, 10, 0, 15, 0, 0, 0, 0, 41, 1, 17, 0, 18, 47, 1, 17, 0, 59, 0, 0, 32, 0, 32, 32, 32, 0, 34, 0, 34, 0, 34, 34, 34, 34, 34, 34, 34, 10, 10, 10, 12, 0, 0, 0, 12, 0, 0, 0, 12, 0, 0, 0, 0, 12, 11, 0, 0, 10, 0, 0, 0, 0, 0, 0, 0, 0, 0, 0, 0, 0, 0, 36, 6, 11, 10, 13, 20, 21, 22, 10, 10, 10, 10, 31, 31, 31, 31, 0, 0, 10, 1, 0, 0, 0, 1, 0, 0, 0, 1, 0, 0, 0, 0, 1, 2, 0, 64, 3, 0, 1, 8, 0, 54, 0, 0, 31, 0, 31, 31, 31, 10, 32, 32, 32, 32, 0, 0, 10, 18, 18, 18, 18, 0, 10, 0, 0, 10, 0, 15, 0, 0, 0, 0, 42, 1, 17, 0, 18, 48, 1, 17, 0, 60, 0, 0, 32, 0, 32, 32, 32, 0, 34, 0, 34, 0, 34, 34, 34, 34, 34, 34, 34, 10, 10, 10, 12, 0, 0, 0, 12, 0, 0, 0, 12, 0, 0, 0, 0, 12, 11, 0, 0, 10, 0, 0, 0, 0, 0, 0, 0, 0, 0, 0, 0, 0, 0, 37, 6, 11, 10, 13, 20, 21, 22, 10, 10, 10, 10, 31, 31, 31, 31, 0, 0, 10, 0, 19, 0, 0, 31, 0, 31, 31, 31, 10, 32, 32, 32, 32, 0, 0, 10, 0, 19, 0, 0, 32, 0, 32, 32, 32, 10, 10, 10, 0, 34, 0, 34, 0, 34, 34, 34, 34, 34, 34, 34, 10, 10, 10, 12, 0, 0, 0, 12, 0, 0, 0, 12, 0, 0, 0, 0, 12, 11, 0, 0, 10, 0, 0, 0, 0, 0, 0, 0, 0, 0, 0, 0, 0, 0, 38, 6, 11, 10, 13, 20, 21, 22, 10, 10, 10, 10, 31, 31, 31, 31, 0, 0, 10, 0, 20, 0, 0, 31, 0, 31, 31, 31, 10, 32, 32, 32, 32, 0, 0, 10, 0, 20, 0, 0, 32, 0, 32, 32, 32, 10, 10, 10, 0, 34, 0, 34, 0, 34, 34, 34, 36, 0, 10, 10, 36, 30, 31])
noncomputable def tgP0145 : Tg := (gl g0 [1, 0, 0, 10, 10, 0, 0, 0, 0, 0, 0, 0, 0, 0, 0, 0, 0, 0, 0, 0, 0, 0, 0, 0, 0, 0, 0, 0, 0, 0, 0, 0, 0, 0, 12, 0, 12, 0, 0, 0, 0, 1, 0, 0, 0, 13, 13, 13, 13, 13, 13, 13, 0, 0, 13, 0, 0, 14, 0, 0, 13, 13, 12, 0, 0, 0, 0, 12, 0, 0, 12, 0, 12, 0, 0, 0, 12, 0, 11, 11, 11, 13, 14, 14, 0, 14, 0, 15, 0, 15, 0, 15, 0, 15, 15, 14, 15, 15, 17, 0, 10, 10, 10, 10, 0, 0, 0, 0, 10, 10, 0, 0, 0, 0, 0, 0, 19, 19, 0, 19, 0, 19, 19, 19, 0, 19, 0, 19, 19, 19, 20, 0, 20, 0, 20, 0, 20, 20, 20, 20, 20, 20, 20, 10, 10, 10, 1, 0, 0, 0, 1, 0, 0, 0, 1, 0, 0, 0, 0, 1, 2, 0, 3, 9, 0, 1, 2, 3, 4, 5, 6, 7, 8, 10, 10, 0, 0, 10, 0, 15, 0, 0, 0, 10, 0, 0, 0, 0, 0, 9, 0, 10, 12, 0, 0, 0, 12, 0, 0, 0, 12, 0, 0, 0, 0, 12, 11, 0, 0, 10, 0, 0, 0, 0, 0, 0, 0, 0, 0, 0, 0, 0, 10, 0, 21, 3, 11, 10, 13, 10, 10, 10, 0, 20, 0, 20, 0, 20, 20, 20, 20, 20, 20, 20, 10, 10, 10, 1, 0, 0, 0, 1, 0, 0, 0, 1, 0, 0, 0, 0, 1, 2, 0, 4, 9, 0, 1, 2, 3, 4, 5, 6, 7, 8, 10, 10, 0, 0, 10, 0, 16, 0, 0, 0, 10, 0, 15, 0, 0, 10, 0, 10, 12, 0, 0, 0, 12, 0, 0, 0, 12, 0, 0, 0, 0, 12, 11, 0, 0, 10, 0, 0, 0, 0, 0, 0, 0, 0, 0, 0, 0, 0, 10, 0, 22, 3, 11, 10, 13, 10, 10, 10, 0, 20, 0, 20, 0, 20, 20, 20, 20, 20, 20, 20, 10, 10, 10, 1, 0, 0, 0, 1, 0, 0, 0, 1, 0, 0, 0, 0, 1, 2, 0, 5, 9, 0, 1, 2, 3, 4, 5, 6, 7, 8, 10, 10, 0, 0, 10, 0, 17, 0, 0, 0, 10, 0, 16, 0, 0, 11, 0, 0, 10, 10, 0, 0, 0, 29, 1, 17, 0, 20, 0, 20, 0, 20, 20, 20, 20, 20, 20, 20, 10, 10, 10, 1, 0, 0, 0, 1, 0, 0, 0, 1, 0, 0, 0, 0, 1, 2, 0, 6, 9, 0, 1, 2, 3, 4, 5, 6, 7, 8, 10, 10, 0, 0, 10, 0, 18, 0, 0, 0, 10, 0, 16, 0, 0, 12, 0, 0, 10, 10, 0, 0, 0, 30, 1, 17, 0, 20, 0, 20, 0, 20, 20, 20, 20, 20, 20, 20, 10, 10, 10, 1, 0, 0, 0, 1, 0, 0, 0, 1, 0, 0, 0, 0, 1, 2, 0, 7, 9, 0, 1, 2, 3, 4, 5, 6, 7, 8, 10, 10, 0, 0, 10, 0, 19, 0, 0, 0, 10, 0, 16, 0, 0, 13, 0, 10, 12, 0, 0, 0, 12, 0, 0, 0, 12, 0, 0, 0, 0, 12, 11, 0, 0, 10, 0, 0, 0, 0, 0, 0, 0, 0, 0, 0, 0, 0, 10, 0, 25, 3, 11, 10, 13, 10, 10, 10, 0, 20, 0, 20, 0, 20, 20, 20, 20, 20, 20, 20, 10, 10, 10, 1, 0, 0, 0, 1, 0, 0, 0, 1, 0, 0, 0, 0, 1, 2, 0, 8, 9, 0, 1, 2, 3, 4, 5, 6, 7, 8, 10, 10, 0, 0, 10, 0, 20, 0, 0, 0, 10, 0, 19, 0, 0, 14, 0, 10, 12, 0, 0, 0, 12, 0, 0, 0, 12, 0, 0, 0, 0, 12, 11, 0, 0, 10, 0, 0, 0, 0, 0, 0, 0, 0, 0, 0, 0, 0, 10, 0, 26, 3, 11, 10, 13, 10, 10, 10, 0, 20, 0, 20, 0, 20, 20, 20, 26, 0, 10, 0, 0, 18, 18, 18, 0, 18, 0, 27, 27, 27, 27, 27, 18, 28, 28, 0, 28, 0, 29, 0, 29, 0, 29, 0, 29, 29, 28, 29, 29, 10, 10, 10, 1, 0, 0, 0, 1, 0, 0, 0, 1, 0, 0, 0, 0, 1, 2, 10, 0, 63, 3, 0, 1, 8, 0, 29, 0, 29, 0, 29, 29, 28, 29, 29, 10, 10, 10, 1, 0, 0, 0, 1, 0, 0, 0, 1, 0, 0, 0, 0, 1, 2, 10, 0, 63, 3, 0, 1, 8, 0, 29, 0, 29, 0, 29, 29, 28, 29, 29, 31, 0, 10, 10, 10, 10, 10, 10, 0, 0, 0, 0, 0, 0, 34, 34, 0, 34, 0, 34, 34, 34, 0, 34, 0, 34, 34, 34, 35, 0, 35, 0, 35, 0, 35, 35, 35, 35, 35, 35, 35, 10, 10, 10, 12, 0, 0, 0, 12, 0, 0, 0, 12, 0, 0, 0, 0, 12, 11, 0, 0, 10, 0, 0, 0, 0, 0, 0, 0, 0, 0, 0, 0, 0, 0, 33, 7, 11, 10, 13, 20, 21, 22, 23, 10, 10, 10, 10, 32, 32, 32, 32, 0, 0, 10, 0, 15, 0, 0, 32, 0, 32, 32, 32, 10, 33, 33, 33, 33, 0, 0, 10, 0, 15, 0, 0, 33, 0, 33, 33, 33, 10, 10, 10, 0, 35, 0, 35, 0, 35, 35, 35, 35, 35, 35, 35, 10, 10, 10, 12, 0, 0, 0, 12, 0, 0, 0, 12, 0, 0, 0, 0, 12, 11, 0, 0, 10, 0, 0, 0, 0, 0, 0, 0, 0, 0, 0, 0, 0, 0, 34, 7, 11, 10, 13, 20, 21, 22, 23, 10, 10, 10, 10, 32, 32, 32, 32, 0, 0, 10, 0, 16, 0, 0, 32, 0, 32, 32, 32, 10, 33, 33, 33, 33, 0, 0, 10, 0, 16, 0, 0, 33, 0, 33, 33, 33, 10, 10, 10, 0, 35, 0, 35, 0, 35, 35, 35, 35, 35, 35, 35, 10, 10, 10, 12, 0, 0, 0, 12, 0, 0, 0, 12, 0, 0, 0, 0, 12, 11, 0, 0, 10, 0, 0, 0, 0, 0, 0, 0, 0, 0, 0, 0, 0, 0, 35, 7, 11, 10, 13, 20, 21, 22, 23, 10, 10, 10, 10, 32, 32, 32, 32, 0, 0, 10, 1, 0, 0, 0, 1, 0, 0, 0, 1, 0, 0, 0, 0, 1, 2, 0, 64, 3, 0, 1, 8, 0, 53, 0, 0, 32, 0, 32, 32, 32, 10, 33, 33, 33, 33, 0, 0, 10, 18, 18, 18, 18, 0, 10, 0, 0, 10, 0, 16, 0, 0, 0, 0, 41, 1, 17, 0, 18, 47, 1, 17, 0, 59, 0, 0, 33, 0, 33, 33, 33, 0, 35, 0, 35, 0, 35, 35, 35, 35, 35, 35, 35, 10, 10, 10, 12, 0, 0, 0, 12, 0, 0, 0, 12, 0, 0, 0, 0, 12, 11, 0, 0, 10, 0, 0, 0, 0, 0, 0, 0, 0, 0, 0, 0, 0, 0, 36, 7, 11, 10, 13, 20, 21, 22, 23, 10, 10, 10, 10, 32, 32, 32, 32, 0, 0, 10, 1, 0, 0, 0, 1, 0, 0, 0, 1, 0, 0, 0, 0, 1, 2, 0, 64, 3, 0, 1, 8, 0, 54, 0, 0, 32, 0, 32, 32, 32, 10, 33, 33, 33, 33, 0, 0, 10, 18, 18, 18, 18, 0, 10, 0, 0, 10, 0, 16, 0, 0, 0, 0, 42, 1, 17, 0, 18, 48, 1, 17, 0, 60, 0, 0, 33, 0, 33, 33, 33, 0, 35, 0, 35, 0, 35, 35, 35, 35, 35, 35, 35, 10, 10, 10, 12, 0, 0, 0, 12, 0, 0, 0, 12, 0, 0, 0, 0, 12, 11, 0, 0, 10, 0, 0, 0, 0, 0, 0, 0, 0, 0, 0, 0, 0, 0, 37, 7, 11, 10, 13, 20, 21, 22, 23, 10, 10, 10, 10, 32, 32, 32, 32, 0, 0, 10, 0, 19, 0, 0, 32, 0, 32, 32, 32, 10, 33, 33, 33, 33, 0, 0, 10, 0, 19, 0, 0, 33, 0, 33, 33, 33, 10, 10, 10, 0, 35, 0, 35, 0, 35, 35, 35, 35, 35, 35, 35, 10, 10, 10, 12, 0, 0, 0, 12, 0, 0, 0, 12, 0, 0, 0, 0, 12, 11, 0, 0, 10, 0, 0, 0, 0, 0, 0, 0, 0, 0, 0, 0, 0, 0, 38, 7, 11, 10, 13, 20, 21, 22, 23, 10, 10, 10, 10, 32, 32, 32, 32, 0, 0, 10, 0, 20, 0, 0, 32, 0, 32, 32, 32, 10, 33, 33, 33, 33, 0, 0, 10, 0, 20, 0, 0, 33, 0, 33, 33, 33, 10, 10, 10, 0, 35, 0, 35, 0, 35, 35, 35, 37, 0, 10, 10, 37, 31, 32])
noncomputable def tgP0245 : Tg := (gl g0 [1, 0, 0, 10, 10, 0, 0, 0, 0, 0, 0, 0, 0, 0, 0, 0, 0, 0, 0, 0, 0, 0, 0, 0, 0, 0, 0, 0, 0, 0, 0, 0, 0, 0, 12, 0, 12, 0, 0, 0, 0, 1, 0, 0, 0, 13, 13, 13, 13, 13, 13, 13, 0, 0, 13, 0, 0, 14, 0, 0, 13, 13, 12, 0, 0, 0, 0, 12, 0, 0, 12, 0, 12, 0, 0, 0, 12, 0, 11, 11, 11, 13, 14, 14, 0, 14, 0, 15, 0, 15, 0, 15, 0, 15, 15, 14, 15, 15, 17, 0, 10, 10, 10, 10, 0, 0, 0, 0, 10, 10, 0, 0, 0, 0, 0, 0, 19, 19, 0, 19, 0, 19, 19, 19, 0, 19, 0, 19, 19, 19, 20, 0, 20, 0, 20, 0, 20, 20, 20, 20, 20, 20, 20, 10, 10, 10, 1, 0, 0, 0, 1, 0, 0, 0, 1, 0, 0, 0, 0, 1, 2, 0, 3, 9, 0, 1, 2, 3, 4, 5, 6, 7, 8, 10, 10, 0, 0, 10, 0, 15, 0, 0, 0, 10, 0, 0, 0, 0, 0, 9, 0, 10, 12, 0, 0, 0, 12, 0, 0, 0, 12, 0, 0, 0, 0, 12, 11, 0, 0, 10, 0, 0, 0, 0, 0, 0, 0, 0, 0, 0, 0, 0, 10, 0, 21, 3, 11, 10, 13, 10, 10, 10, 0, 20, 0, 20, 0, 20, 20, 20, 20, 20, 20, 20, 10, 10, 10, 1, 0, 0, 0, 1, 0, 0, 0, 1, 0, 0, 0, 0, 1, 2, 0, 4, 9, 0, 1, 2, 3, 4, 5, 6, 7, 8, 10, 10, 0, 0, 10, 0, 16, 0, 0, 0, 10, 0, 15, 0, 0, 10, 0, 0, 10, 10, 0, 0, 0, 28, 1, 17, 0, 20, 0, 20, 0, 20, 20, 20, 20, 20, 20, 20, 10, 10, 10, 1, 0, 0, 0, 1, 0, 0, 0, 1, 0, 0, 0, 0, 1, 2, 0, 5, 9, 0, 1, 2, 3, 4, 5, 6, 7, 8, 10, 10, 0, 0, 10, 0, 17, 0, 0, 0, 10, 0, 15, 0, 0, 11, 0, 10, 12, 0, 0, 0, 12, 0, 0, 0, 12, 0, 0, 0, 0, 12, 11, 0, 0, 10, 0, 0, 0, 0, 0, 0, 0, 0, 0, 0, 0, 0, 10, 0, 23, 3, 11, 10, 13, 10, 10, 10, 0, 20, 0, 20, 0, 20, 20, 20, 20, 20, 20, 20, 10, 10, 10, 1, 0, 0, 0, 1, 0, 0, 0, 1, 0, 0, 0, 0, 1, 2, 0, 6, 9, 0, 1, 2, 3, 4, 5, 6, 7, 8, 10, 10, 0, 0, 10, 0, 18, 0, 0, 0, 10, 0, 17, 0, 0, 12, 0, 0, 10, 10, 0, 0, 0, 30, 1, 17, 0, 20, 0, 20, 0, 20, 20, 20, 20, 20, 20, 20, 10, 10, 10, 1, 0, 0, 0, 1, 0, 0, 0, 1, 0, 0, 0, 0, 1, 2, 0, 7, 9, 0, 1, 2, 3, 4, 5, 6, 7, 8, 10, 10, 0, 0, 10, 0, 19, 0, 0, 0, 10, 0, 17, 0, 0, 13, 0, 10, 12, 0, 0, 0, 12, 0, 0, 0, 12, 0, 0, 0, 0, 12, 11, 0, 0, 10, 0, 0, 0, 0, 0, 0, 0, 0, 0, 0, 0, 0, 10, 0, 25, 3, 11, 10, 13, 10, 10, 10, 0, 20, 0, 20, 0, 20, 20, 20, 20, 20, 20, 20, 10, 10, 10, 1, 0, 0, 0, 1, 0, 0, 0, 1, 0, 0, 0, 0, 1, 2, 0, 8, 9, 0, 1, 2, 3, 4, 5, 6, 7, 8, 10, 10, 0, 0, 10, 0, 20, 0, 0, 0, 10, 0, 19, 0, 0, 14, 0, 10, 12, 0, 0, 0, 12, 0, 0, 0, 12, 0, 0, 0, 0, 12, 11, 0, 0, 10, 0, 0, 0, 0, 0, 0, 0, 0, 0, 0, 0, 0, 10, 0, 26, 3, 11, 10, 13, 10, 10, 10, 0, 20, 0, 20, 0, 20, 20, 20, 26, 0, 10, 0, 0, 18, 18, 18, 0, 18, 0, 27, 27, 27, 27, 27, 18, 28, 28, 0, 28, 0, 29, 0, 29, 0, 29, 0, 29, 29, 28, 29, 29, 10, 10, 10, 1, 0, 0, 0, 1, 0, 0, 0, 1, 0, 0, 0, 0, 1, 2, 10, 0, 63, 3, 0, 1, 8, 0, 29, 0, 29, 0, 29, 29, 28, 29, 29, 10, 10, 10, 1, 0, 0, 0, 1, 0, 0, 0, 1, 0, 0, 0, 0, 1, 2, 10, 0, 63, 3, 0, 1, 8, 0, 29, 0, 29, 0, 29, 29, 28, 29, 29, 31, 0, 10, 10, 10, 10, 10, 10, 0, 0, 0, 0, 0, 0, 34, 34, 0, 34, 0, 34, 34, 34, 0, 34, 0, 34, 34, 34, 35, 0, 35, 0, 35, 0, 35, 35, 35, 35, 35, 35, 35, 10, 10, 10, 12, 0, 0, 0, 12, 0, 0, 0, 12, 0, 0, 0, 0, 12, 11, 0, 0, 10, 0, 0, 0, 0, 0, 0, 0, 0, 0, 0, 0, 0, 0, 33, 7, 11, 10, 13, 20, 21, 22, 23, 10, 10, 10, 10, 32, 32, 32, 32, 0, 0, 10, 0, 15, 0, 0, 32, 0, 32, 32, 32, 10, 33, 33, 33, 33, 0, 0, 10, 0, 15, 0, 0, 33, 0, 33, 33, 33, 10, 10, 10, 0, 35, 0, 35, 0, 35, 35, 35, 35, 35, 35, 35, 10, 10, 10, 12, 0, 0, 0, 12, 0, 0, 0, 12, 0, 0, 0, 0, 12, 11, 0, 0, 10, 0, 0, 0, 0, 0, 0, 0, 0, 0, 0, 0, 0, 0, 34, 7, 11, 10, 13, 20, 21, 22, 23, 10, 10, 10, 10, 32, 32, 32, 32, 0, 0, 10, 1, 0, 0, 0, 1, 0, 0, 0, 1, 0, 0, 0, 0, 1, 2, 0, 64, 3, 0, 1, 8, 0, 52, 0, 0, 32, 0, 32, 32, 32, 10, 33, 33, 33, 33, 0, 0, 10, 18, 18, 18, 18, 0, 10, 0, 0, 10, 0, 15, 0, 0, 0, 0, 40, 1, 17, 0, 18, 46, 1, 17, 0, 58, 0, 0, 33, 0, 33, 33, 33, 0, 35, 0, 35, 0, 35, 35, 35, 35, 35, 35, 35, 10, 10, 10, 12, 0, 0, 0, 12, 0, 0, 0, 12, 0, 0, 0, 0, 12, 11, 0, 0, 10, 0, 0, 0, 0, 0, 0, 0, 0, 0, 0, 0, 0, 0, 35, 7, 11, 10, 13, 20, 21, 22, 23, 10, 10, 10, 10, 32, 32, 32, 32, 0, 0, 10, 0, 17, 0, 0, 32, 0, 32, 32, 32, 10, 33, 33, 33, 33, 0, 0, 10, 0, 17, 0, 0, 33, 0, 33, 33, 33, 10, 10, 10, 0, 35, 0, 35, 0, 35, 35, 35, 35, 35, 35, 35, 10, 10, 10, 12, 0, 0, 0, 12, 0, 0, 0, 12, 0, 0, 0, 0, 12, 11, 0, 0, 10, 0, 0, 0, 0, 0, 0, 0, 0, 0, 0, 0, 0, 0, 36, 7, 11, 10, 13, 20, 21, 22, 23, 10, 10, 10, 10, 32, 32, 32, 32, 0, 0, 10, 1, 0, 0, 0, 1, 0, 0, 0, 1, 0, 0, 0, 0, 1, 2, 0, 64, 3, 0, 1, 8, 0, 54, 0, 0, 32, 0, 32, 32, 32, 10, 33, 33, 33, 33, 0, 0, 10, 18, 18, 18, 18, 0, 10, 0, 0, 10, 0, 17, 0, 0, 0, 0, 42, 1, 17, 0, 18, 48, 1, 17, 0, 60, 0, 0, 33, 0, 33, 33, 33, 0, 35, 0, 35, 0, 35, 35, 35, 35, 35, 35, 35, 10, 10, 10, 12, 0, 0, 0, 12, 0, 0, 0, 12, 0, 0, 0, 0, 12, 11, 0, 0, 10, 0, 0, 0, 0, 0, 0, 0, 0, 0, 0, 0, 0, 0, 37, 7, 11, 10, 13, 20, 21, 22, 23, 10, 10, 10, 10, 32, 32, 32, 32, 0, 0, 10, 0, 19, 0, 0, 32, 0, 32, 32, 32, 10, 33, 33, 33, 33, 0, 0, 10, 0, 19, 0, 0, 33, 0, 33, 33, 33, 10, 10, 10, 0, 35, 0, 35, 0, 35, 35, 35, 35, 35, 35, 35, 10, 10, 10, 12, 0, 0, 0, 12, 0, 0, 0, 12, 0, 0, 0, 0, 12, 11, 0, 0, 10, 0, 0, 0, 0, 0, 0, 0, 0, 0, 0, 0, 0, 0, 38, 7, 11, 10, 13, 20, 21, 22, 23, 10, 10, 10, 10, 32, 32, 32, 32, 0, 0, 10, 0, 20, 0, 0, 32, 0, 32, 32, 32, 10, 33, 33, 33, 33, 0, 0, 10, 0, 20, 0, 0, 33, 0, 33, 33, 33, 10, 10, 10, 0, 35, 0, 35, 0, 35, 35, 35, 37, 0, 10, 10, 37, 31, 32])
noncomputable def tgP01245 : Tg := (gl g0 [1, 0, 0, 10, 10, 0, 0, 0, 0, 0, 0, 0, 0, 0, 0, 0, 0, 0, 0, 0, 0, 0, 0, 0, 0, 0, 0, 0, 0, 0, 0, 0, 0, 0, 12, 0, 12, 0, 0, 0, 0, 1, 0, 0, 0, 13, 13, 13, 13, 13, 13, 13, 0, 0, 13, 0, 0, 14, 0, 0, 13, 13, 12, 0, 0, 0, 0, 12, 0, 0, 12, 0, 12, 0, 0, 0, 12, 0, 11, 11, 11, 13, 14, 14, 0, 14, 0, 15, 0, 15, 0, 15, 0, 15, 15, 14, 15, 15, 17, 0, 10, 10, 10, 10, 0, 0, 0, 0, 10, 10, 0, 0, 0, 0, 0, 0, 19, 19, 0, 19, 0, 19, 19, 19, 0, 19, 0, 19, 19, 19, 20, 0, 20, 0, 20, 0, 20, 20, 20, 20, 20, 20, 20, 10, 10, 10, 1, 0, 0, 0, 1, 0, 0, 0, 1, 0, 0, 0, 0, 1, 2, 0, 3, 9, 0, 1, 2, 3, 4, 5, 6, 7, 8, 10, 10, 0, 0, 10, 0, 15, 0, 0, 0, 10, 0, 0, 0, 0, 0, 9, 0, 10, 12, 0, 0, 0, 12, 0, 0, 0, 12, 0, 0, 0, 0, 12, 11, 0, 0, 10, 0, 0, 0, 0, 0, 0, 0, 0, 0, 0, 0, 0, 10, 0, 21, 3, 11, 10, 13, 10, 10, 10, 0, 20, 0, 20, 0, 20, 20, 20, 20, 20, 20, 20, 10, 10, 10, 1, 0, 0, 0, 1, 0, 0, 0, 1, 0, 0, 0, 0, 1, 2, 0, 4, 9, 0, 1, 2, 3, 4, 5, 6, 7, 8, 10, 10, 0, 0, 10, 0, 16, 0, 0, 0, 10, 0, 15, 0, 0, 10, 0, 10, 12, 0, 0, 0, 12, 0, 0, 0, 12, 0, 0, 0, 0, 12, 11, 0, 0, 10, 0, 0, 0, 0, 0, 0, 0, 0, 0, 0, 0, 0, 10, 0, 22, 3, 11, 10, 13, 10, 10, 10, 0, 20, 0, 20, 0, 20, 20, 20, 20, 20, 20, 20, 10, 10, 10, 1, 0, 0, 0, 1, 0, 0, 0, 1, 0, 0, 0, 0, 1, 2, 0, 5, 9, 0, 1, 2, 3, 4, 5, 6, 7, 8, 10, 10, 0, 0, 10, 0, 17, 0, 0, 0, 10, 0, 16, 0, 0, 11, 0, 10, 12, 0, 0, 0, 12, 0, 0, 0, 12, 0, 0, 0, 0, 12, 11, 0, 0, 10, 0, 0, 0, 0, 0, 0, 0, 0, 0, 0, 0, 0, 10, 0, 23, 3, 11, 10, 13, 10, 10, 10, 0, 20, 0, 20, 0, 20, 20, 20, 20, 20, 20, 20, 10, 10, 10, 1, 0, 0, 0, 1, 0, 0, 0, 1, 0, 0, 0, 0, 1, 2, 0, 6, 9, 0, 1, 2, 3, 4, 5, 6, 7, 8, 10, 10, 0, 0, 10, 0, 18, 0, 0, 0, 10, 0, 17, 0, 0, 12, 0, 0, 10, 10, 0, 0, 0, 30, 1, 17, 0, 20, 0, 20, 0, 20, 20, 20, 20, 20, 20, 20, 10, 10, 10, 1, 0, 0, 0, 1, 0, 0, 0, 1, 0, 0, 0, 0, 1, 2, 0, 7, 9, 0, 1, 2, 3, 4, 5, 6, 7, 8, 10, 10, 0, 0, 10, 0, 19, 0, 0, 0, 10, 0, 17, 0, 0, 13, 0, 10, 12, 0, 0, 0, 12, 0, 0, 0, 12, 0, 0, 0, 0, 12, 11, 0, 0, 10, 0, 0, 0, 0, 0, 0, 0, 0, 0, 0, 0, 0, 10, 0, 25, 3, 11, 10, 13, 10, 10, 10, 0, 20, 0, 20, 0, 20, 20, 20, 20, 20, 20, 20, 10, 10, 10, 1, 0, 0, 0, 1, 0, 0, 0, 1, 0, 0, 0, 0, 1, 2, 0, 8, 9, 0, 1, 2, 3, 4, 5, 6, 7, 8, 10, 10, 0, 0, 10, 0, 20, 0, 0, 0, 10, 0, 19, 0, 0, 14, 0, 10, 12, 0, 0, 0, 12, 0, 0, 0, 12, 0, 0, 0, 0, 12, 11, 0, 0, 10, 0, 0, 0, 0, 0, 0, 0, 0, 0, 0, 0, 0, 10, 0, 26, 3, 11, 10, 13, 10, 10, 10, 0, 20, 0, 20, 0, 20, 20, 20, 27, 0, 10, 0, 0, 18, 18, 18, 0, 18, 0, 28, 28, 28, 28, 28, 18, 29, 29, 0, 29, 0, 30, 0, 30, 0, 30, 0, 30, 30, 29, 30, 30, 10, 10, 10, 1, 0, 0, 0, 1, 0, 0, 0, 1, 0, 0, 0, 0, 1, 2, 10, 0, 63, 3, 0, 1, 8, 0, 30, 0, 30, 0, 30, 30, 29, 30, 30, 32, 0, 10, 10, 10, 10, 10, 10, 0, 0, 0, 0, 0, 0, 35, 35, 0, 35, 0, 35, 35, 35, 0, 35, 0, 35, 35, 35, 36, 0, 36, 0, 36, 0, 36, 36, 36, 36, 36, 36, 36, 10, 10, 10, 12, 0, 0, 0, 12, 0, 0, 0, 12, 0, 0, 0, 0, 12, 11, 0, 0, 10, 0, 0, 0, 0, 0, 0, 0, 0, 0, 0, 0, 0, 0, 33, 8, 11, 10, 13, 20, 21, 22, 23, 24, 10, 10, 10, 10, 33, 33, 33, 33, 0, 0, 10, 0, 15, 0, 0, 33, 0, 33, 33, 33, 10, 34, 34, 34, 34, 0, 0, 10, 0, 15, 0, 0, 34, 0, 34, 34, 34, 10, 10, 10, 0, 36, 0, 36, 0, 36, 36, 36, 36, 36, 36, 36, 10, 10, 10, 12, 0, 0, 0, 12, 0, 0, 0, 12, 0, 0, 0, 0, 12, 11, 0, 0, 10, 0, 0, 0, 0, 0, 0, 0, 0, 0, 0, 0, 0, 0, 34, 8, 11, 10, 13, 20, 21, 22, 23, 24, 10, 10, 10, 10, 33, 33, 33, 33, 0, 0, 10, 0, 16, 0, 0, 33, 0, 33, 33, 33, 10, 34, 34, 34, 34, 0, 0, 10, 0, 16, 0, 0, 34, 0, 34, 34, 34, 10, 10, 10, 0, 36, 0, 36, 0, 36, 36, 36, 36, 36, 36, 36, 10, 10, 10, 12, 0, 0, 0, 12, 0, 0, 0, 12, 0, 0, 0, 0, 12, 11, 0, 0, 10, 0, 0, 0, 0, 0, 0, 0, 0, 0, 0, 0, 0, 0, 35, 8, 11, 10, 13, 20, 21, 22, 23, 24, 10, 10, 10, 10, 33, 33, 33, 33, 0, 0, 10, 0, 17, 0, 0, 33, 0, 33, 33, 33, 10, 34, 34, 34, 34, 0, 0, 10, 0, 17, 0, 0, 34, 0, 34, 34, 34, 10, 10, 10, 0, 36, 0, 36, 0, 36, 36, 36, 36, 36, 36, 36, 10, 10, 10, 12, 0, 0, 0, 12, 0, 0, 0, 12, 0, 0, 0, 0, 12, 11, 0, 0, 10, 0, 0, 0, 0, 0, 0, 0, 0, 0, 0, 0, 0, 0, 36, 8, 11, 10, 13, 20, 21, 22, 23, 24, 10, 10, 10, 10, 33, 33, 33, 33, 0, 0, 10, 1, 0, 0, 0, 1, 0, 0, 0, 1, 0, 0, 0, 0, 1, 2, 0, 64, 3, 0, 1, 8, 0, 54, 0, 0, 33, 0, 33, 33, 33, 10, 34, 34, 34, 34, 0, 0, 10, 18, 18, 18, 18, 0, 10, 0, 0, 10, 0, 17, 0, 0, 0, 0, 42, 1, 17, 0, 18, 48, 1, 17, 0, 60, 0, 0, 34, 0, 34, 34, 34, 0, 36, 0, 36, 0, 36, 36, 36, 36, 36, 36, 36, 10, 10, 10, 12, 0, 0, 0, 12, 0, 0, 0, 12, 0, 0, 0, 0, 12, 11, 0, 0, 10, 0, 0, 0, 0, 0, 0, 0, 0, 0, 0, 0, 0, 0, 37, 8, 11, 10, 13, 20, 21, 22, 23, 24, 10, 10, 10, 10, 33, 33, 33, 33, 0, 0, 10, 0, 19, 0, 0, 33, 0, 33, 33, 33, 10, 34, 34, 34, 34, 0, 0, 10, 0, 19, 0, 0, 34, 0, 34, 34, 34, 10, 10, 10, 0, 36, 0, 36, 0, 36, 36, 36, 36, 36, 36, 36, 10, 10, 10, 12, 0, 0, 0, 12, 0, 0, 0, 12, 0, 0, 0, 0, 12, 11, 0, 0, 10, 0, 0, 0, 0, 0, 0, 0, 0, 0, 0, 0, 0, 0, 38, 8, 11, 10, 13, 20, 21, 22, 23, 24, 10, 10, 10, 10, 33, 33, 33, 33, 0, 0, 10, 0, 20, 0, 0, 33, 0, 33, 33, 33, 10, 34, 34, 34, 34, 0, 0, 10, 0, 20, 0, 0, 34, 0, 34, 34, 34, 10, 10, 10, 0, 36, 0, 36, 0, 36, 36, 36, 38, 0, 10, 10, 38, 32, 33])
noncomputable def tgP0345 : Tg := (gl g0 [1, 0, 0, 10, 10, 0, 0, 0, 0, 0, 0, 0, 0, 0, 0, 0, 0, 0, 0, 0, 0, 0, 0, 0, 0, 0, 0, 0, 0, 0, 0, 0, 0, 0, 12, 0, 12, 0, 0, 0, 0, 1, 0, 0, 0, 13, 13, 13, 13, 13, 13, 13, 0, 0, 13, 0, 0, 14, 0, 0, 13, 13, 12, 0, 0, 0, 0, 12, 0, 0, 12, 0, 12, 0, 0, 0, 12, 0, 11, 11, 11, 13, 14, 14, 0, 14, 0, 15, 0, 15, 0, 15, 0, 15, 15, 14, 15, 15, 17, 0, 10, 10, 10, 10, 0, 0, 0, 0, 10, 10, 0, 0, 0, 0, 0, 0, 19, 19, 0, 19, 0, 19, 19, 19, 0, 19, 0, 19, 19, 19, 20, 0, 20, 0, 20, 0, 20, 20, 20, 20, 20, 20, 20, 10, 10, 10, 1, 0, 0, 0, 1, 0, 0, 0, 1, 0, 0, 0, 0, 1, 2, 0, 3, 9, 0, 1, 2, 3, 4, 5, 6, 7, 8, 10, 10, 0, 0, 10, 0, 15, 0, 0, 0, 10, 0, 0, 0, 0, 0, 9, 0, 10, 12, 0, 0, 0, 12, 0, 0, 0, 12, 0, 0, 0, 0, 12, 11, 0, 0, 10, 0, 0, 0, 0, 0, 0, 0, 0, 0, 0, 0, 0, 10, 0, 21, 3, 11, 10, 13, 10, 10, 10, 0, 20, 0, 20, 0, 20, 20, 20, 20, 20, 20, 20, 10, 10, 10, 1, 0, 0, 0, 1, 0, 0, 0, 1, 0, 0, 0, 0, 1, 2, 0, 4, 9, 0, 1, 2, 3, 4, 5, 6, 7, 8, 10, 10, 0, 0, 10, 0, 16, 0, 0, 0, 10, 0, 15, 0, 0, 10, 0, 0, 10, 10, 0, 0, 0, 28, 1, 17, 0, 20, 0, 20, 0, 20, 20, 20, 20, 20, 20, 20, 10, 10, 10, 1, 0, 0, 0, 1, 0, 0, 0, 1, 0, 0, 0, 0, 1, 2, 0, 5, 9, 0, 1, 2, 3, 4, 5, 6, 7, 8, 10, 10, 0, 0, 10, 0, 17, 0, 0, 0, 10, 0, 15, 0, 0, 11, 0, 0, 10, 10, 0, 0, 0, 29, 1, 17, 0, 20, 0, 20, 0, 20, 20, 20, 20, 20, 20, 20, 10, 10, 10, 1, 0, 0, 0, 1, 0, 0, 0, 1, 0, 0, 0, 0, 1, 2, 0, 6, 9, 0, 1, 2, 3, 4, 5, 6, 7, 8, 10, 10, 0, 0, 10, 0, 18, 0, 0, 0, 10, 0, 15, 0, 0, 12, 0, 10, 12, 0, 0, 0, 12, 0, 0, 0, 12, 0, 0, 0, 0, 12, 11, 0, 0, 10, 0, 0, 0, 0, 0, 0, 0, 0, 0, 0, 0, 0, 10, 0, 24, 3, 11, 10, 13, 10, 10, 10, 0, 20, 0, 20, 0, 20, 20, 20, 20, 20, 20, 20, 10, 10, 10, 1, 0, 0, 0, 1, 0, 0, 0, 1, 0, 0, 0, 0, 1, 2, 0, 7, 9, 0, 1, 2, 3, 4, 5, 6, 7, 8, 10, 10, 0, 0, 10, 0, 19, 0, 0, 0, 10, 0, 18, 0, 0, 13, 0, 10, 12, 0, 0, 0, 12, 0, 0, 0, 12, 0, 0, 0, 0, 12, 11, 0, 0, 10, 0, 0, 0, 0, 0, 0, 0, 0, 0, 0, 0, 0, 10, 0, 25, 3, 11, 10, 13, 10, 10, 10, 0, 20, 0, 20, 0, 20, 20, 20, 20, 20, 20, 20, 10, 10, 10, 1, 0, 0, 0, 1, 0, 0, 0, 1, 0, 0, 0, 0, 1, 2, 0, 8, 9, 0, 1, 2, 3, 4, 5, 6, 7, 8, 10, 10, 0, 0, 10, 0, 20, 0, 0, 0, 10, 0, 19, 0, 0, 14, 0, 10, 12, 0, 0, 0, 12, 0, 0, 0, 12, 0, 0, 0, 0, 12, 11, 0, 0, 10, 0, 0, 0, 0, 0, 0, 0, 0, 0, 0, 0, 0, 10, 0, 26, 3, 11, 10, 13, 10, 10, 10, 0, 20, 0, 20, 0, 20, 20, 20, 26, 0, 10, 0, 0, 18, 18, 18, 0, 18, 0, 27, 27, 27, 27, 27, 18, 28, 28, 0, 28, 0, 29, 0, 29, 0, 29, 0, 29, 29, 28, 29, 29, 10, 10, 10, 1, 0, 0, 0, 1, 0, 0, 0, 1, 0, 0, 0, 0, 1, 2, 10, 0, 63, 3, 0, 1, 8, 0, 29, 0, 29, 0, 29, 29, 28, 29, 29, 10, 10, 10, 1, 0, 0, 0, 1, 0, 0, 0, 1, 0, 0, 0, 0, 1, 2, 10, 0, 63, 3, 0, 1, 8, 0, 29, 0, 29, 0, 29, 29, 28, 29, 29, 31, 0, 10, 10, 10, 10, 10, 10, 0, 0, 0, 0, 0, 0, 34, 34, 0, 34, 0, 34, 34, 34, 0, 34, 0, 34, 34, 34, 35, 0, 35, 0, 35, 0, 35, 35, 35, 35, 35, 35, 35, 10, 10, 10, 12, 0, 0, 0, 12, 0, 0, 0, 12, 0, 0, 0, 0, 12, 11, 0, 0, 10, 0, 0, 0, 0, 0, 0, 0, 0, 0, 0, 0, 0, 0, 33, 7, 11, 10, 13, 20, 21, 22, 23, 10, 10, 10, 10, 32, 32, 32, 32, 0, 0, 10, 0, 15, 0, 0, 32, 0, 32, 32, 32, 10, 33, 33, 33, 33, 0, 0, 10, 0, 15, 0, 0, 33, 0, 33, 33, 33, 10, 10, 10, 0, 35, 0, 35, 0, 35, 35, 35, 35, 35, 35, 35, 10, 10, 10, 12, 0, 0, 0, 12, 0, 0, 0, 12, 0, 0, 0, 0, 12, 11, 0, 0, 10, 0, 0, 0, 0, 0, 0, 0, 0, 0, 0, 0, 0, 0, 34, 7, 11, 10, 13, 20, 21, 22, 23, 10, 10, 10, 10, 32, 32, 32, 32, 0, 0, 10, 1, 0, 0, 0, 1, 0, 0, 0, 1, 0, 0, 0, 0, 1, 2, 0, 64, 3, 0, 1, 8, 0, 52, 0, 0, 32, 0, 32, 32, 32, 10, 33, 33, 33, 33, 0, 0, 10, 18, 18, 18, 18, 0, 10, 0, 0, 10, 0, 15, 0, 0, 0, 0, 40, 1, 17, 0, 18, 46, 1, 17, 0, 58, 0, 0, 33, 0, 33, 33, 33, 0, 35, 0, 35, 0, 35, 35, 35, 35, 35, 35, 35, 10, 10, 10, 12, 0, 0, 0, 12, 0, 0, 0, 12, 0, 0, 0, 0, 12, 11, 0, 0, 10, 0, 0, 0, 0, 0, 0, 0, 0, 0, 0, 0, 0, 0, 35, 7, 11, 10, 13, 20, 21, 22, 23, 10, 10, 10, 10, 32, 32, 32, 32, 0, 0, 10, 1, 0, 0, 0, 1, 0, 0, 0, 1, 0, 0, 0, 0, 1, 2, 0, 64, 3, 0, 1, 8, 0, 53, 0, 0, 32, 0, 32, 32, 32, 10, 33, 33, 33, 33, 0, 0, 10, 18, 18, 18, 18, 0, 10, 0, 0, 10, 0, 15, 0, 0, 0, 0, 41, 1, 17, 0, 18, 47, 1, 17, 0, 59, 0, 0, 33, 0, 33, 33, 33, 0, 35, 0, 35, 0, 35, 35, 35, 35, 35, 35, 35, 10, 10, 10, 12, 0, 0, 0, 12, 0, 0, 0, 12, 0, 0, 0, 0, 12, 11, 0, 0, 10, 0, 0, 0, 0, 0, 0, 0, 0, 0, 0, 0, 0, 0, 36, 7, 11, 10, 13, 20, 21, 22, 23, 10, 10, 10, 10, 32, 32, 32, 32, 0, 0, 10, 0, 18, 0, 0, 32, 0, 32, 32, 32, 10, 33, 33, 33, 33, 0, 0, 10, 0, 18, 0, 0, 33, 0, 33, 33, 33, 10, 10, 10, 0, 35, 0, 35, 0, 35, 35, 35, 35, 35, 35, 35, 10, 10, 10, 12, 0, 0, 0, 12, 0, 0, 0, 12, 0, 0, 0, 0, 12, 11, 0, 0, 10, 0, 0, 0, 0, 0, 0, 0, 0, 0, 0, 0, 0, 0, 37, 7, 11, 10, 13, 20, 21, 22, 23, 10, 10, 10, 10, 32, 32, 32, 32, 0, 0, 10, 0, 19, 0, 0, 32, 0, 32, 32, 32, 10, 33, 33, 33, 33, 0, 0, 10, 0, 19, 0, 0, 33, 0, 33, 33, 33, 10, 10, 10, 0, 35, 0, 35, 0, 35, 35, 35, 35, 35, 35, 35, 10, 10, 10, 12, 0, 0, 0, 12, 0, 0, 0, 12, 0, 0, 0, 0, 12, 11, 0, 0, 10, 0, 0, 0, 0, 0, 0, 0, 0, 0, 0, 0, 0, 0, 38, 7, 11, 10, 13, 20, 21, 22, 23, 10, 10, 10, 10, 32, 32, 32, 32, 0, 0, 10, 0, 20, 0, 0, 32, 0, 32, 32, 32, 10, 33, 33, 33, 33, 0, 0, 10, 0, 20, 0, 0, 33, 0, 33, 33, 33, 10, 10, 10, 0, 35, 0, 35, 0, 35, 35, 35, 37, 0, 10, 10, 37, 31, 32])
noncomputable def tgP01345 : Tg := (gl g0 [1, 0, 0, 10, 10, 0, 0, 0, 0, 0, 0, 0, 0, 0, 0, 0, 0, 0, 0, 0, 0, 0, 0, 0, 0, 0, 0, 0, 0, 0, 0, 0, 0, 0, 12, 0, 12, 0, 0, 0, 0, 1, 0, 0, 0, 13, 13, 13, 13, 13, 13, 13, 0, 0, 13, 0, 0, 14, 0, 0, 13, 13, 12, 0, 0, 0, 0, 12, 0, 0, 12, 0, 12, 0, 0, 0, 12, 0, 11, 11, 11, 13, 14, 14, 0, 14, 0, 15, 0, 15, 0, 15, 0, 15, 15, 14, 15, 15, 17, 0, 10, 10, 10, 10, 0, 0, 0, 0, 10, 10, 0, 0, 0, 0, 0, 0, 19, 19, 0, 19, 0, 19, 19, 19, 0, 19, 0, 19, 19, 19, 20, 0, 20, 0, 20, 0, 20, 20, 20, 20, 20, 20, 20, 10, 10, 10, 1, 0, 0, 0, 1, 0, 0, 0, 1, 0, 0, 0, 0, 1, 2, 0, 3, 9, 0, 1, 2, 3, 4, 5, 6, 7, 8, 10, 10, 0, 0, 10, 0, 15, 0, 0, 0, 10, 0, 0, 0, 0, 0, 9, 0, 10, 12, 0, 0, 0, 12, 0, 0, 0, 12, 0, 0, 0, 0, 12, 11, 0, 0, 10, 0, 0, 0, 0, 0, 0, 0, 0, 0, 0, 0, 0, 10, 0, 21, 3, 11, 10, 13, 10, 10, 10, 0, 20, 0, 20, 0, 20, 20, 20, 20, 20, 20, 20, 10, 10, 10, 1, 0, 0, 0, 1, 0, 0, 0, 1, 0, 0, 0, 0, 1, 2, 0, 4, 9, 0, 1, 2, 3, 4, 5, 6, 7, 8, 10, 10, 0, 0, 10, 0, 16, 0, 0, 0, 10, 0, 15, 0, 0, 10, 0, 10, 12, 0, 0, 0, 12, 0, 0, 0, 12, 0, 0, 0, 0, 12, 11, 0, 0, 10, 0, 0, 0, 0, 0, 0, 0, 0, 0, 0, 0, 0, 10, 0, 22, 3, 11, 10, 13, 10, 10, 10, 0, 20, 0, 20, 0, 20, 20, 20, 20, 20, 20, 20, 10, 10, 10, 1, 0, 0, 0, 1, 0, 0, 0, 1, 0, 0, 0, 0, 1, 2, 0, 5, 9, 0, 1, 2, 3, 4, 5, 6, 7, 8, 10, 10, 0, 0, 10, 0, 17, 0, 0, 0, 10, 0, 16, 0, 0, 11, 0, 0, 10, 10, 0, 0, 0, 29, 1, 17, 0, 20, 0, 20, 0, 20, 20, 20, 20, 20, 20, 20, 10, 10, 10, 1, 0, 0, 0, 1, 0, 0, 0, 1, 0, 0, 0, 0, 1, 2, 0, 6, 9, 0, 1, 2, 3, 4, 5, 6, 7, 8, 10, 10, 0, 0, 10, 0, 18, 0, 0, 0, 10, 0, 16, 0, 0, 12, 0, 10, 12, 0, 0, 0, 12, 0, 0, 0, 12, 0, 0, 0, 0, 12, 11, 0, 0, 10, 0, 0, 0, 0, 0, 0, 0, 0, 0, 0, 0, 0, 10, 0, 24, 3, 11, 10, 13, 10, 10, 10, 0, 20, 0, 20, 0, 20, 20, 20, 20, 20, 20, 20, 10, 10, 10, 1, 0, 0, 0, 1, 0, 0, 0, 1, 0, 0, 0, 0, 1, 2, 0, 7, 9, 0, 1, 2, 3, 4, 5, 6, 7, 8, 10, 10, 0, 0, 10, 0, 19, 0, 0, 0, 10, 0, 18, 0, 0, 13, 0, 10, 12, 0, 0, 0, 12, 0, 0, 0, 12, 0, 0, 0, 0, 12, 11, 0, 0, 10, 0, 0, 0, 0, 0, 0, 0, 0, 0, 0, 0, 0, 10, 0, 25, 3, 11, 10, 13, 10, 10, 10, 0, 20, 0, 20, 0, 20, 20, 20, 20, 20, 20, 20, 10, 10, 10, 1, 0, 0, 0, 1, 0, 0, 0, 1, 0, 0, 0, 0, 1, 2, 0, 8, 9, 0, 1, 2, 3, 4, 5, 6, 7, 8, 10, 10, 0, 0, 10, 0, 20, 0, 0, 0, 10, 0, 19, 0, 0, 14, 0, 10, 12, 0, 0, 0, 12, 0, 0, 0, 12, 0, 0, 0, 0, 12, 11, 0, 0, 10, 0, 0, 0, 0, 0, 0, 0, 0, 0, 0, 0, 0, 10, 0, 26, 3, 11, 10, 13, 10, 10, 10, 0, 20, 0, 20, 0, 20, 20, 20, 27, 0, 10, 0, 0, 18, 18, 18, 0, 18, 0, 28, 28, 28, 28, 28, 18, 29, 29, 0, 29, 0, 30, 0, 30, 0, 30, 0, 30, 30, 29, 30, 30, 10, 10, 10, 1, 0, 0, 0, 1, 0, 0, 0, 1, 0, 0, 0, 0, 1, 2, 10, 0, 63, 3, 0, 1, 8, 0, 30, 0, 30, 0, 30, 30, 29, 30, 30, 32, 0, 10, 10, 10, 10, 10, 10, 0, 0, 0, 0, 0, 0, 35, 35, 0, 35, 0, 35, 35, 35, 0, 35, 0, 35, 35, 35, 36, 0, 36, 0, 36, 0, 36, 36, 36, 36, 36, 36, 36, 10, 10, 10, 12, 0, 0, 0, 12, 0, 0, 0, 12, 0, 0, 0, 0, 12, 11, 0, 0, 10, 0, 0, 0, 0, 0, 0, 0, 0, 0, 0, 0, 0, 0, 33, 8, 11, 10, 13, 20, 21, 22, 23, 24, 10, 10, 10, 10, 33, 33, 33, 33, 0, 0, 10, 0, 15, 0, 0, 33, 0, 33, 33, 33, 10, 34, 34, 34, 34, 0, 0, 10, 0, 15, 0, 0, 34, 0, 34, 34, 34, 10, 10, 10, 0, 36, 0, 36, 0, 36, 36, 36, 36, 36, 36, 36, 10, 10, 10, 12, 0, 0, 0, 12, 0, 0, 0, 12, 0, 0, 0, 0, 12, 11, 0, 0, 10, 0, 0, 0, 0, 0, 0, 0, 0, 0, 0, 0, 0, 0, 34, 8, 11, 10, 13, 20, 21, 22, 23, 24, 10, 10, 10, 10, 33, 33, 33, 33, 0, 0, 10, 0, 16, 0, 0, 33, 0, 33, 33, 33, 10, 34, 34, 34, 34, 0, 0, 10, 0, 16, 0, 0, 34, 0, 34, 34, 34, 10, 10, 10, 0, 36, 0, 36, 0, 36, 36, 36, 36, 36, 36, 36, 10, 10, 10, 12, 0, 0, 0, 12, 0, 0, 0, 12, 0, 0, 0, 0, 12, 11, 0, 0, 10, 0, 0, 0, 0, 0, 0, 0, 0, 0, 0, 0, 0, 0, 35, 8, 11, 10, 13, 20, 21, 22, 23, 24, 10, 10, 10, 10, 33, 33, 33, 33, 0, 0, 10, 1, 0, 0, 0, 1, 0, 0, 0, 1, 0, 0, 0, 0, 1, 2, 0, 64, 3, 0, 1, 8, 0, 53, 0, 0, 33, 0, 33, 33, 33, 10, 34, 34, 34, 34, 0, 0, 10, 18, 18, 18, 18, 0, 10, 0, 0, 10, 0, 16, 0, 0, 0, 0, 41, 1, 17, 0, 18, 47, 1, 17, 0, 59, 0, 0, 34, 0, 34, 34, 34, 0, 36, 0, 36, 0, 36, 36, 36, 36, 36, 36, 36, 10, 10, 10, 12, 0, 0, 0, 12, 0, 0, 0, 12, 0, 0, 0, 0, 12, 11, 0, 0, 10, 0, 0, 0, 0, 0, 0, 0, 0, 0, 0, 0, 0, 0, 36, 8, 11, 10, 13, 20, 21, 22, 23, 24, 10, 10, 10, 10, 33, 33, 33, 33, 0, 0, 10, 0, 18, 0, 0, 33, 0, 33, 33, 33, 10, 34, 34, 34, 34, 0, 0, 10, 0, 18, 0, 0, 34, 0, 34, 34, 34, 10, 10, 10, 0, 36, 0, 36, 0, 36, 36, 36, 36, 36, 36, 36, 10, 10, 10, 12, 0, 0, 0, 12, 0, 0, 0, 12, 0, 0, 0, 0, 12, 11, 0, 0, 10, 0, 0, 0, 0, 0, 0, 0, 0, 0, 0, 0, 0, 0, 37, 8, 11, 10, 13, 20, 21, 22, 23, 24, 10, 10, 10, 10, 33, 33, 33, 33, 0, 0, 10, 0, 19, 0, 0, 33, 0, 33, 33, 33, 10, 34, 34, 34, 34, 0, 0, 10, 0, 19, 0, 0, 34, 0, 34, 34, 34, 10, 10, 10, 0, 36, 0, 36, 0, 36, 36, 36, 36, 36, 36, 36, 10, 10, 10, 12, 0, 0, 0, 12, 0, 0, 0, 12, 0, 0, 0, 0, 12, 11, 0, 0, 10, 0, 0, 0, 0, 0, 0, 0, 0, 0, 0, 0, 0, 0, 38, 8, 11, 10, 13, 20, 21, 22, 23, 24, 10, 10, 10, 10, 33, 33, 33, 33, 0, 0, 10, 0, 20, 0, 0, 33, 0, 33, 33, 33, 10, 34, 34, 34, 34, 0, 0, 10, 0, 20, 0, 0, 34, 0, 34, 34, 34, 10, 10, 10, 0, 36, 0, 36, 0, 36, 36, 36, 38, 0, 10, 10, 38, 32, 33])
noncomputable def tgP02345 : Tg := (gl g0 [1, 0, 0, 10, 10, 0, 0, 0, 0, 0, 0, 0, 0, 0, 0, 0, 0, 0, 0, 0, 0, 0, 0, 0, 0, 0, 0, 0, 0, 0, 0, 0, 0, 0, 12, 0, 12, 0, 0, 0, 0, 1, 0, 0, 0, 13, 13, 13, 13, 13, 13, 13, 0, 0, 13, 0, 0, 14, 0, 0, 13, 13, 12, 0, 0, 0, 0, 12, 0, 0, 12, 0, 12, 0, 0, 0, 12, 0, 11, 11, 11, 13, 14, 14, 0, 14, 0, 15, 0, 15, 0, 15, 0, 15, 15, 14, 15, 15, 17, 0, 10, 10, 10, 10, 0, 0, 0, 0, 10, 10, 0, 0, 0, 0, 0, 0, 19, 19, 0, 19, 0, 19, 19, 19, 0, 19, 0, 19, 19, 19, 20, 0, 20, 0, 20, 0, 20, 20, 20, 20, 20, 20, 20, 10, 10, 10, 1, 0, 0, 0, 1, 0, 0, 0, 1, 0, 0, 0, 0, 1, 2, 0, 3, 9, 0, 1, 2, 3, 4, 5, 6, 7, 8, 10, 10, 0, 0, 10, 0, 15, 0, 0, 0, 10, 0, 0, 0, 0, 0, 9, 0, 10, 12, 0, 0, 0, 12, 0, 0, 0, 12, 0, 0, 0, 0, 12, 11, 0, 0, 10, 0, 0, 0, 0, 0, 0, 0, 0, 0, 0, 0, 0, 10, 0, 21, 3, 11, 10, 13, 10, 10, 10, 0, 20, 0, 20, 0, 20, 20, 20, 20, 20, 20, 20, 10, 10, 10, 1, 0, 0, 0, 1, 0, 0, 0, 1, 0, 0, 0, 0, 1, 2, 0, 4, 9, 0, 1, 2, 3, 4, 5, 6, 7, 8, 10, 10, 0, 0, 10, 0, 16, 0, 0, 0, 10, 0, 15, 0, 0, 10, 0, 0, 10, 10, 0, 0, 0, 28, 1, 17, 0, 20, 0, 20, 0, 20, 20, 20, 20, 20, 20, 20, 10, 10, 10, 1, 0, 0, 0, 1, 0, 0, 0, 1, 0, 0, 0, 0, 1, 2, 0, 5, 9, 0, 1, 2, 3, 4, 5, 6, 7, 8, 10, 10, 0, 0, 10, 0, 17, 0, 0, 0, 10, 0, 15, 0, 0, 11, 0, 10, 12, 0, 0, 0, 12, 0, 0, 0, 12, 0, 0, 0, 0, 12, 11, 0, 0, 10, 0, 0, 0, 0, 0, 0, 0, 0, 0, 0, 0, 0, 10, 0, 23, 3, 11, 10, 13, 10, 10, 10, 0, 20, 0, 20, 0, 20, 20, 20, 20, 20, 20, 20, 10, 10, 10, 1, 0, 0, 0, 1, 0, 0, 0, 1, 0, 0, 0, 0, 1, 2, 0, 6, 9, 0, 1, 2, 3, 4, 5, 6, 7, 8, 10, 10, 0, 0, 10, 0, 18, 0, 0, 0, 10, 0, 17, 0, 0, 12, 0, 10, 12, 0, 0, 0, 12, 0, 0, 0, 12, 0, 0, 0, 0, 12, 11, 0, 0, 10, 0, 0, 0, 0, 0, 0, 0, 0, 0, 0, 0, 0, 10, 0, 24, 3, 11, 10, 13, 10, 10, 10, 0, 20, 0, 20, 0, 20, 20, 20, 20, 20, 20, 20, 10, 10, 10, 1, 0, 0, 0, 1, 0, 0, 0, 1, 0, 0, 0, 0, 1, 2, 0, 7, 9, 0, 1, 2, 3, 4, 5, 6, 7, 8, 10, 10, 0, 0, 10, 0, 19, 0, 0, 0, 10, 0, 18, 0, 0, 13, 0, 10, 12, 0, 0, 0, 12, 0, 0, 0, 12, 0, 0, 0, 0, 12, 11, 0, 0, 10, 0, 0, 0, 0, 0, 0, 0, 0, 0, 0, 0, 0, 10, 0, 25, 3, 11, 10, 13, 10, 10, 10, 0, 20, 0, 20, 0, 20, 20, 20, 20, 20, 20, 20, 10, 10, 10, 1, 0, 0, 0, 1, 0, 0, 0, 1, 0, 0, 0, 0, 1, 2, 0, 8, 9, 0, 1, 2, 3, 4, 5, 6, 7, 8, 10, 10, 0, 0, 10, 0, 20, 0, 0, 0, 10, 0, 19, 0, 0, 14, 0, 10, 12, 0, 0, 0, 12, 0, 0, 0, 12, 0, 0, 0, 0, 12, 11, 0, 0, 10, 0, 0, 0, 0, 0, 0, 0, 0, 0, 0, 0, 0, 10, 0, 26, 3, 11, 10, 13, 10, 10, 10, 0, 20, 0, 20, 0, 20, 20, 20, 27, 0, 10, 0, 0, 18, 18, 18, 0, 18, 0, 28, 28, 28, 28, 28, 18, 29, 29, 0, 29, 0, 30, 0, 30, 0, 30, 0, 30, 30, 29, 30, 30, 10, 10, 10, 1, 0, 0, 0, 1, 0, 0, 0, 1, 0, 0, 0, 0, 1, 2, 10, 0, 63, 3, 0, 1, 8, 0, 30, 0, 30, 0, 30, 30, 29, 30, 30, 32, 0, 10, 10, 10, 10, 10, 10, 0, 0, 0, 0, 0, 0, 35, 35, 0, 35, 0, 35, 35, 35, 0, 35, 0, 35, 35, 35, 36, 0, 36, 0, 36, 0, 36, 36, 36, 36, 36, 36, 36, 10, 10, 10, 12, 0, 0, 0, 12, 0, 0, 0, 12, 0, 0, 0, 0, 12, 11, 0, 0, 10, 0, 0, 0, 0, 0, 0, 0, 0, 0, 0, 0, 0, 0, 33, 8, 11, 10, 13, 20, 21, 22, 23, 24, 10, 10, 10, 10, 33, 33, 33, 33, 0, 0, 10, 0, 15, 0, 0, 33, 0, 33, 33, 33, 10, 34, 34, 34, 34, 0, 0, 10, 0, 15, 0, 0, 34, 0, 34, 34, 34, 10, 10, 10, 0, 36, 0, 36, 0, 36, 36, 36, 36, 36, 36, 36, 10, 10, 10, 12, 0, 0, 0, 12, 0, 0, 0, 12, 0, 0, 0, 0, 12, 11, 0, 0, 10, 0, 0, 0, 0, 0, 0, 0, 0, 0, 0, 0, 0, 0, 34, 8, 11, 10, 13, 20, 21, 22, 23, 24, 10, 10, 10, 10, 33, 33, 33, 33, 0, 0, 10, 1, 0, 0, 0, 1, 0, 0, 0, 1, 0, 0, 0, 0, 1, 2, 0, 64, 3, 0, 1, 8, 0, 52, 0, 0, 33, 0, 33, 33, 33, 10, 34, 34, 34, 34, 0, 0, 10, 18, 18, 18, 18, 0, 10, 0, 0, 10, 0, 15, 0, 0, 0, 0, 40, 1, 17, 0, 18, 46, 1, 17, 0, 58, 0, 0, 34, 0, 34, 34, 34, 0, 36, 0, 36, 0, 36, 36, 36, 36, 36, 36, 36, 10, 10, 10, 12, 0, 0, 0, 12, 0, 0, 0, 12, 0, 0, 0, 0, 12, 11, 0, 0, 10, 0, 0, 0, 0, 0, 0, 0, 0, 0, 0, 0, 0, 0, 35, 8, 11, 10, 13, 20, 21, 22, 23, 24, 10, 10, 10, 10, 33, 33, 33, 33, 0, 0, 10, 0, 17, 0, 0, 33, 0, 33, 33, 33, 10, 34, 34, 34, 34, 0, 0, 10, 0, 17, 0, 0, 34, 0, 34, 34, 34, 10, 10, 10, 0, 36, 0, 36, 0, 36, 36, 36, 36, 36, 36, 36, 10, 10, 10, 12, 0, 0, 0, 12, 0, 0, 0, 12, 0, 0, 0, 0, 12, 11, 0, 0, 10, 0, 0, 0, 0, 0, 0, 0, 0, 0, 0, 0, 0, 0, 36, 8, 11, 10, 13, 20, 21, 22, 23, 24, 10, 10, 10, 10, 33, 33, 33, 33, 0, 0, 10, 0, 18, 0, 0, 33, 0, 33, 33, 33, 10, 34, 34, 34, 34, 0, 0, 10, 0, 18, 0, 0, 34, 0, 34, 34, 34, 10, 10, 10, 0, 36, 0, 36, 0, 36, 36, 36, 36, 36, 36, 36, 10, 10, 10, 12, 0, 0, 0, 12, 0, 0, 0, 12, 0, 0, 0, 0, 12, 11, 0, 0, 10, 0, 0, 0, 0, 0, 0, 0, 0, 0, 0, 0, 0, 0, 37, 8, 11, 10, 13, 20, 21, 22, 23, 24, 10, 10, 10, 10, 33, 33, 33, 33, 0, 0, 10, 0, 19, 0, 0, 33, 0, 33, 33, 33, 10, 34, 34, 34, 34, 0, 0, 10, 0, 19, 0, 0, 34, 0, 34, 34, 34, 10, 10, 10, 0, 36, 0, 36, 0, 36, 36, 36, 36, 36, 36, 36, 10, 10, 10, 12, 0, 0, 0, 12, 0, 0, 0, 12, 0, 0, 0, 0, 12, 11, 0, 0, 10, 0, 0, 0, 0, 0, 0, 0, 0, 0, 0, 0, 0, 0, 38, 8, 11, 10, 13, 20, 21, 22, 23, 24, 10, 10, 10, 10, 33, 33, 33, 33, 0, 0, 10, 0, 20, 0, 0, 33, 0, 33, 33, 33, 10, 34, 34, 34, 34, 0, 0, 10, 0, 20, 0, 0, 34, 0, 34, 34, 34, 10, 10, 10, 0, 36, 0, 36, 0, 36, 36, 36, 38, 0, 10, 10, 38, 32, 33])
noncomputable def tgP012345 : Tg := (gl g0 [1, 0, 0, 10, 10, 0, 0, 0, 0, 0, 0, 0, 0, 0, 0, 0, 0, 0, 0, 0, 0, 0, 0, 0, 0, 0, 0, 0, 0, 0, 0, 0, 0, 0, 12, 0, 12, 0, 0, 0, 0, 1, 0, 0, 0, 13, 13, 13, 13, 13, 13, 13, 0, 0, 13, 0, 0, 14, 0, 0, 13, 13, 12, 0, 0, 0, 0, 12, 0, 0, 12, 0, 12, 0, 0, 0, 12, 0, 11, 11, 11, 13, 14, 14, 0, 14, 0, 15, 0, 15, 0, 15, 0, 15, 15, 14, 15, 15, 17, 0, 10, 10, 10, 10, 0, 0, 0, 0, 10, 10, 0, 0, 0, 0, 0, 0, 19, 19, 0, 19, 0, 19, 19, 19, 0, 19, 0, 19, 19, 19, 20, 0, 20, 0, 20, 0, 20, 20, 20, 20, 20, 20, 20, 10, 10, 10, 1, 0, 0, 0, 1, 0, 0, 0, 1, 0, 0, 0, 0, 1, 2, 0, 3, 9, 0, 1, 2, 3, 4, 5, 6, 7, 8, 10, 10, 0, 0, 10, 0, 15, 0, 0, 0, 10, 0, 0, 0, 0, 0, 9, 0, 10, 12, 0, 0, 0, 12, 0, 0, 0, 12, 0, 0, 0, 0, 12, 11, 0, 0, 10, 0, 0, 0, 0, 0, 0, 0, 0, 0, 0, 0, 0, 10, 0, 21, 3, 11, 10, 13, 10, 10, 10, 0, 20, 0, 20, 0, 20, 20, 20, 20, 20, 20, 20, 10, 10, 10, 1, 0, 0, 0, 1, 0, 0, 0, 1, 0, 0, 0, 0, 1, 2, 0, 4, 9, 0, 1, 2, 3, 4, 5, 6, 7, 8, 10, 10, 0, 0, 10, 0, 16, 0, 0, 0, 10, 0, 15, 0, 0, 10, 0, 10, 12, 0, 0, 0, 12, 0, 0, 0, 12, 0, 0, 0, 0, 12, 11, 0, 0, 10, 0, 0, 0, 0, 0, 0, 0, 0, 0, 0, 0, 0, 10, 0, 22, 3, 11, 10, 13, 10, 10, 10, 0, 20, 0, 20, 0, 20, 20, 20, 20, 20, 20, 20, 10, 10, 10, 1, 0, 0, 0, 1, 0, 0, 0, 1, 0, 0, 0, 0, 1, 2, 0, 5, 9, 0, 1, 2, 3, 4, 5, 6, 7, 8, 10, 10, 0, 0, 10, 0, 17, 0, 0, 0, 10, 0, 16, 0, 0, 11, 0, 10, 12, 0, 0, 0, 12, 0, 0, 0, 12, 0, 0, 0, 0, 12, 11, 0, 0, 10, 0, 0, 0, 0, 0, 0, 0, 0, 0, 0, 0, 0, 10, 0, 23, 3, 11, 10, 13, 10, 10, 10, 0, 20, 0, 20, 0, 20, 20, 20, 20, 20, 20, 20, 10, 10, 10, 1, 0, 0, 0, 1, 0, 0, 0, 1, 0, 0, 0, 0, 1, 2, 0, 6, 9, 0, 1, 2, 3, 4, 5, 6, 7, 8, 10, 10, 0, 0, 10, 0, 18, 0, 0, 0, 10, 0, 17, 0, 0, 12, 0, 10, 12, 0, 0, 0, 12, 0, 0, 0, 12, 0, 0, 0, 0, 12, 11, 0, 0, 10, 0, 0, 0, 0, 0, 0, 0, 0, 0, 0, 0, 0, 10, 0, 24, 3, 11, 10, 13, 10, 10, 10, 0, 20, 0, 20, 0, 20, 20, 20, 20, 20, 20, 20, 10, 10, 10, 1, 0, 0, 0, 1, 0, 0, 0, 1, 0, 0, 0, 0, 1, 2, 0, 7, 9, 0, 1, 2, 3, 4, 5, 6, 7, 8, 10, 10, 0, 0, 10, 0, 19, 0, 0, 0, 10, 0, 18, 0, 0, 13, 0, 10, 12, 0, 0, 0, 12, 0, 0, 0, 12, 0, 0, 0, 0, 12, 11, 0, 0, 10, 0, 0, 0, 0, 0, 0, 0, 0, 0, 0, 0, 0, 10, 0, 25, 3, 11, 10, 13, 10, 10, 10, 0, 20, 0, 20, 0, 20, 20, 20, 20, 20, 20, 20, 10, 10, 10, 1, 0, 0, 0, 1, 0, 0, 0, 1, 0, 0, 0, 0, 1, 2, 0, 8, 9, 0, 1, 2, 3, 4, 5, 6, 7, 8, 10, 10, 0, 0, 10, 0, 20, 0, 0, 0, 10, 0, 19, 0, 0, 14, 0, 10, 12, 0, 0, 0, 12, 0, 0, 0, 12, 0, 0, 0, 0, 12, 11, 0, 0, 10, 0, 0, 0, 0, 0, 0, 0, 0, 0, 0, 0, 0, 10, 0, 26, 3, 11, 10, 13, 10, 10, 10, 0, 20, 0, 20, 0, 20, 20, 20, 28, 0, 10, 0, 0, 18, 18, 18, 0, 18, 0, 29, 29, 29, 29, 29, 18, 30, 30, 0, 30, 0, 31, 0, 31, 0, 31, 0, 31, 31, 30, 31, 31, 33, 0, 10, 10, 10, 10, 10, 10, 0, 0, 0, 0, 0, 0, 36, 36, 0, 36, 0, 36, 36, 36, 0, 36, 0, 36, 36, 36, 37, 0, 37, 0, 37, 0, 37, 37, 37, 37, 37, 37, 37, 10, 10, 10, 12, 0, 0, 0, 12, 0, 0, 0, 12, 0, 0, 0, 0, 12, 11, 0, 0, 10, 0, 0, 0, 0, 0, 0, 0, 0, 0, 0, 0, 0, 0, 33, 9, 11, 10, 13, 20, 21, 22, 23, 24, 25, 10, 10, 10, 10, 34, 34, 34, 34, 0, 0, 10, 0, 15, 0, 0, 34, 0, 34, 34, 34, 10, 35, 35, 35, 35, 0, 0, 10, 0, 15, 0, 0, 35, 0, 35, 35, 35, 10, 10, 10, 0, 37, 0, 37, 0, 37, 37, 37, 37, 37, 37, 37, 10, 10, 10, 12, 0, 0, 0, 12, 0, 0, 0, 12, 0, 0, 0, 0, 12, 11, 0, 0, 10, 0, 0, 0, 0, 0, 0, 0, 0, 0, 0, 0, 0, 0, 34, 9, 11, 10, 13, 20, 21, 22, 23, 24, 25, 10, 10, 10, 10, 34, 34, 34, 34, 0, 0, 10, 0, 16, 0, 0, 34, 0, 34, 34, 34, 10, 35, 35, 35, 35, 0, 0, 10, 0, 16, 0, 0, 35, 0, 35, 35, 35, 10, 10, 10, 0, 37, 0, 37, 0, 37, 37, 37, 37, 37, 37, 37, 10, 10, 10, 12, 0, 0, 0, 12, 0, 0, 0, 12, 0, 0, 0, 0, 12, 11, 0, 0, 10, 0, 0, 0, 0, 0, 0, 0, 0, 0, 0, 0, 0, 0, 35, 9, 11, 10, 13, 20, 21, 22, 23, 24, 25, 10, 10, 10, 10, 34, 34, 34, 34, 0, 0, 10, 0, 17, 0, 0, 34, 0, 34, 34, 34, 10, 35, 35, 35, 35, 0, 0, 10, 0, 17, 0, 0, 35, 0, 35, 35, 35, 10, 10, 10, 0, 37, 0, 37, 0, 37, 37, 37, 37, 37, 37, 37, 10, 10, 10, 12, 0, 0, 0, 12, 0, 0, 0, 12, 0, 0, 0, 0, 12, 11, 0, 0, 10, 0, 0, 0, 0, 0, 0, 0, 0, 0, 0, 0, 0, 0, 36, 9, 11, 10, 13, 20, 21, 22, 23, 24, 25, 10, 10, 10, 10, 34, 34, 34, 34, 0, 0, 10, 0, 18, 0, 0, 34, 0, 34, 34, 34, 10, 35, 35, 35, 35, 0, 0, 10, 0, 18, 0, 0, 35, 0, 35, 35, 35, 10, 10, 10, 0, 37, 0, 37, 0, 37, 37, 37, 37, 37, 37, 37, 10, 10, 10, 12, 0, 0, 0, 12, 0, 0, 0, 12, 0, 0, 0, 0, 12, 11, 0, 0, 10, 0, 0, 0, 0, 0, 0, 0, 0, 0, 0, 0, 0, 0, 37, 9, 11, 10, 13, 20, 21, 22, 23, 24, 25, 10, 10, 10, 10, 34, 34, 34, 34, 0, 0, 10, 0, 19, 0, 0, 34, 0, 34, 34, 34, 10, 35, 35, 35, 35, 0, 0, 10, 0, 19, 0, 0, 35, 0, 35, 35, 35, 10, 10, 10, 0, 37, 0, 37, 0, 37, 37, 37, 37, 37, 37, 37, 10, 10, 10, 12, 0, 0, 0, 12, 0, 0, 0, 12, 0, 0, 0, 0, 12, 11, 0, 0, 10, 0, 0, 0, 0, 0, 0, 0, 0, 0, 0, 0, 0, 0, 38, 9, 11, 10, 13, 20, 21, 22, 23, 24, 25, 10, 10, 10, 10, 34, 34, 34, 34, 0, 0, 10, 0, 20, 0, 0, 34, 0, 34, 34, 34, 10, 35, 35, 35, 35, 0, 0, 10, 0, 20, 0, 0, 35, 0, 35, 35, 35, 10, 10, 10, 0, 37, 0, 37, 0, 37, 37, 37, 39, 0, 10, 10, 39, 33, 34])
set_option maxHeartbeats 0
theorem pa_chk0 (P : Params) (b1 b2 : Bool) (x : LX) (c : Nat) (p : PD) (e m N tk : Nat) : (ckPA P b1 b2 x c p [0] e m N tk tgP0).lhs = (ckPA P b1 b2 x c p [0] e m N tk tgP0).rhs := by
  cases b1 <;> kernel_rfl
theorem pa_chk01 (P : Params) (b1 b2 : Bool) (x : LX) (c : Nat) (p : PD) (e m N tk : Nat) : (ckPA P b1 b2 x c p [0, 1] e m N tk tgP01).lhs = (ckPA P b1 b2 x c p [0, 1] e m N tk tgP01).rhs := by
  cases b1 <;> kernel_rfl
theorem pa_chk02 (P : Params) (b1 b2 : Bool) (x : LX) (c : Nat) (p : PD) (e m N tk : Nat) : (ckPA P b1 b2 x c p [0, 2] e m N tk tgP02).lhs = (ckPA P b1 b2 x c p [0, 2] e m N tk tgP02).rhs := by
  cases b1 <;> kernel_rfl
theorem pa_chk012 (P : Params) (b1 b2 : Bool) (x : LX) (c : Nat) (p : PD) (e m N tk : Nat) : (ckPA P b1 b2 x c p [0, 1, 2] e m N tk tgP012).lhs = (ckPA P b1 b2 x c p [0, 1, 2] e m N tk tgP012).rhs := by
  cases b1 <;> kernel_rfl
theorem pa_chk03 (P : Params) (b1 b2 : Bool) (x : LX) (c : Nat) (p : PD) (e m N tk : Nat) : (ckPA P b1 b2 x c p [0, 3] e m N tk tgP03).lhs = (ckPA P b1 b2 x c p [0, 3] e m N tk tgP03).rhs := by
  cases b1 <;> kernel_rfl
theorem pa_chk013 (P : Params) (b1 b2 : Bool) (x : LX) (c : Nat) (p : PD) (e m N tk : Nat) : (ckPA P b1 b2 x c p [0, 1, 3] e m N tk tgP013).lhs = (ckPA P b1 b2 x c p [0, 1, 3] e m N tk tgP013).rhs := by
  cases b1 <;> kernel_rfl
theorem pa_chk023 (P : Params) (b1 b2 : Bool) (x : LX) (c : Nat) (p : PD) (e m N tk : Nat) : (ckPA P b1 b2 x c p [0, 2, 3] e m N tk tgP023).lhs = (ckPA P b1 b2 x c p [0, 2, 3] e m N tk tgP023).rhs := by
  cases b1 <;> kernel_rfl
theorem pa_chk0123 (P : Params) (b1 b2 : Bool) (x : LX) (c : Nat) (p : PD) (e m N tk : Nat) : (ckPA P b1 b2 x c p [0, 1, 2, 3] e m N tk tgP0123).lhs = (ckPA P b1 b2 x c p [0, 1, 2, 3] e m N tk tgP0123).rhs := by
  cases b1 <;> kernel_rfl
theorem pa_chk04 (P : Params) (b1 b2 : Bool) (x : LX) (c : Nat) (p : PD) (e m N tk : Nat) : (ckPA P b1 b2 x c p [0, 4] e m N tk tgP04).lhs = (ckPA P b1 b2 x c p [0, 4] e m N tk tgP04).rhs := by
  cases b1 <;> kernel_rfl
theorem pa_chk014 (P : Params) (b1 b2 : Bool) (x : LX) (c : Nat) (p : PD) (e m N tk : Nat) : (ckPA P b1 b2 x c p [0, 1, 4] e m N tk tgP014).lhs = (ckPA P b1 b2 x c p [0, 1, 4] e m N tk tgP014).rhs := by
  cases b1 <;> kernel_rfl
theorem pa_chk024 (P : Params) (b1 b2 : Bool) (x : LX) (c : Nat) (p : PD) (e m N tk : Nat) : (ckPA P b1 b2 x c p [0, 2, 4] e m N tk tgP024).lhs = (ckPA P b1 b2 x c p [0, 2, 4] e m N tk tgP024).rhs := by
  cases b1 <;> kernel_rfl
theorem pa_chk0124 (P : Params) (b1 b2 : Bool) (x : LX) (c : Nat) (p : PD) (e m N tk : Nat) : (ckPA P b1 b2 x c p [0, 1, 2, 4] e m N tk tgP0124).lhs = (ckPA P b1 b2 x c p [0, 1, 2, 4] e m N tk tgP0124).rhs := by
  cases b1 <;> kernel_rfl
theorem pa_chk034 (P : Params) (b1 b2 : Bool) (x : LX) (c : Nat) (p : PD) (e m N tk : Nat) : (ckPA P b1 b2 x c p [0, 3, 4] e m N tk tgP034).lhs = (ckPA P b1 b2 x c p [0, 3, 4] e m N tk tgP034).rhs := by
  cases b1 <;> kernel_rfl
theorem pa_chk0134 (P : Params) (b1 b2 : Bool) (x : LX) (c : Nat) (p : PD) (e m N tk : Nat) : (ckPA P b1 b2 x c p [0, 1, 3, 4] e m N tk tgP0134).lhs = (ckPA P b1 b2 x c p [0, 1, 3, 4] e m N tk tgP0134).rhs := by
  cases b1 <;> kernel_rfl
theorem pa_chk0234 (P : Params) (b1 b2 : Bool) (x : LX) (c : Nat) (p : PD) (e m N tk : Nat) : (ckPA P b1 b2 x c p [0, 2, 3, 4] e m N tk tgP0234).lhs = (ckPA P b1 b2 x c p [0, 2, 3, 4] e m N tk tgP0234).rhs := by
  cases b1 <;> kernel_rfl
theorem pa_chk01234 (P : Params) (b1 b2 : Bool) (x : LX) (c : Nat) (p : PD) (e m N tk : Nat) : (ckPA P b1 b2 x c p [0, 1, 2, 3, 4] e m N tk tgP01234).lhs = (ckPA P b1 b2 x c p [0, 1, 2, 3, 4] e m N tk tgP01234).rhs := by
  cases b1 <;> kernel_rfl
theorem pa_chk05 (P : Params) (b1 b2 : Bool) (x : LX) (c : Nat) (p : PD) (e m N tk : Nat) : (ckPA P b1 b2 x c p [0, 5] e m N tk tgP05).lhs = (ckPA P b1 b2 x c p [0, 5] e m N tk tgP05).rhs := by
  cases b1 <;> kernel_rfl
theorem pa_chk015 (P : Params) (b1 b2 : Bool) (x : LX) (c : Nat) (p : PD) (e m N tk : Nat) : (ckPA P b1 b2 x c p [0, 1, 5] e m N tk tgP015).lhs = (ckPA P b1 b2 x c p [0, 1, 5] e m N tk tgP015).rhs := by
  cases b1 <;> kernel_rfl
theorem pa_chk025 (P : Params) (b1 b2 : Bool) (x : LX) (c : Nat) (p : PD) (e m N tk : Nat) : (ckPA P b1 b2 x c p [0, 2, 5] e m N tk tgP025).lhs = (ckPA P b1 b2 x c p [0, 2, 5] e m N tk tgP025).rhs := by
  cases b1 <;> kernel_rfl
theorem pa_chk0125 (P : Params) (b1 b2 : Bool) (x : LX) (c : Nat) (p : PD) (e m N tk : Nat) : (ckPA P b1 b2 x c p [0, 1, 2, 5] e m N tk tgP0125).lhs = (ckPA P b1 b2 x c p [0, 1, 2, 5] e m N tk tgP0125).rhs := by
  cases b1 <;> kernel_rfl
theorem pa_chk035 (P : Params) (b1 b2 : Bool) (x : LX) (c : Nat) (p : PD) (e m N tk : Nat) : (ckPA P b1 b2 x c p [0, 3, 5] e m N tk tgP035).lhs = (ckPA P b1 b2 x c p [0, 3, 5] e m N tk tgP035).rhs := by
  cases b1 <;> kernel_rfl
theorem pa_chk0135 (P : Params) (b1 b2 : Bool) (x : LX) (c : Nat) (p : PD) (e m N tk : Nat) : (ckPA P b1 b2 x c p [0, 1, 3, 5] e m N tk tgP0135).lhs = (ckPA P b1 b2 x c p [0, 1, 3, 5] e m N tk tgP0135).rhs := by
  cases b1 <;> kernel_rfl
theorem pa_chk0235 (P : Params) (b1 b2 : Bool) (x : LX) (c : Nat) (p : PD) (e m N tk : Nat) : (ckPA P b1 b2 x c p [0, 2, 3, 5] e m N tk tgP0235).lhs = (ckPA P b1 b2 x c p [0, 2, 3, 5] e m N tk tgP0235).rhs := by
  cases b1 <;> kernel_rfl
theorem pa_chk01235 (P : Params) (b1 b2 : Bool) (x : LX) (c : Nat) (p : PD) (e m N tk : Nat) : (ckPA P b1 b2 x c p [0, 1, 2, 3, 5] e m N tk tgP01235).lhs = (ckPA P b1 b2 x c p [0, 1, 2, 3, 5] e m N tk tgP01235).rhs := by
  cases b1 <;> kernel_rfl
theorem pa_chk045 (P : Params) (b1 b2 : Bool) (x : LX) (c : Nat) (p : PD) (e m N tk : Nat) : (ckPA P b1 b2 x c p [0, 4, 5] e m N tk tgP045).lhs = (ckPA P b1 b2 x c p [0, 4, 5] e m N tk tgP045).rhs := by
  cases b1 <;> kernel_rfl
theorem pa_chk0145 (P : Params) (b1 b2 : Bool) (x : LX) (c : Nat) (p : PD) (e m N tk : Nat) : (ckPA P b1 b2 x c p [0, 1, 4, 5] e m N tk tgP0145).lhs = (ckPA P b1 b2 x c p [0, 1, 4, 5] e m N tk tgP0145).rhs := by
  cases b1 <;> kernel_rfl
theorem pa_chk0245 (P : Params) (b1 b2 : Bool) (x : LX) (c : Nat) (p : PD) (e m N tk : Nat) : (ckPA P b1 b2 x c p [0, 2, 4, 5] e m N tk tgP0245).lhs = (ckPA P b1 b2 x c p [0, 2, 4, 5] e m N tk tgP0245).rhs := by
  cases b1 <;> kernel_rfl
theorem pa_chk01245 (P : Params) (b1 b2 : Bool) (x : LX) (c : Nat) (p : PD) (e m N tk : Nat) : (ckPA P b1 b2 x c p [0, 1, 2, 4, 5] e m N tk tgP01245).lhs = (ckPA P b1 b2 x c p [0, 1, 2, 4, 5] e m N tk tgP01245).rhs := by
  cases b1 <;> kernel_rfl
theorem pa_chk0345 (P : Params) (b1 b2 : Bool) (x : LX) (c : Nat) (p : PD) (e m N tk : Nat) : (ckPA P b1 b2 x c p [0, 3, 4, 5] e m N tk tgP0345).lhs = (ckPA P b1 b2 x c p [0, 3, 4, 5] e m N tk tgP0345).rhs := by
  cases b1 <;> kernel_rfl
theorem pa_chk01345 (P : Params) (b1 b2 : Bool) (x : LX) (c : Nat) (p : PD) (e m N tk : Nat) : (ckPA P b1 b2 x c p [0, 1, 3, 4, 5] e m N tk tgP01345).lhs = (ckPA P b1 b2 x c p [0, 1, 3, 4, 5] e m N tk tgP01345).rhs := by
  cases b1 <;> kernel_rfl
theorem pa_chk02345 (P : Params) (b1 b2 : Bool) (x : LX) (c : Nat) (p : PD) (e m N tk : Nat) : (ckPA P b1 b2 x c p [0, 2, 3, 4, 5] e m N tk tgP02345).lhs = (ckPA P b1 b2 x c p [0, 2, 3, 4, 5] e m N tk tgP02345).rhs := by
  cases b1 <;> kernel_rfl
theorem pa_chk012345 (P : Params) (b1 b2 : Bool) (x : LX) (c : Nat) (p : PD) (e m N tk : Nat) : (ckPA P b1 b2 x c p [0, 1, 2, 3, 4, 5] e m N tk tgP012345).lhs = (ckPA P b1 b2 x c p [0, 1, 2, 3, 4, 5] e m N tk tgP012345).rhs := by
  cases b1 <;> kernel_rfl
end Mine

namespace Mine
open PySem PySem.Spec PySem.Calls PyProof.Rows PySem.W PySem.W.X

/-- a contract whose tags hang on the row of the comprehensions -/
theorem spec_ofT (w : World) {rules : List RuleD} (hr : ∀ r ∈ rules, RuleD.Ok pw0 w (ko w.params) r) {c : Code} {D U : Nat} {pre : List (Addr × Obj)} {tags : Bool → Tg} {sp : Spec}
    (chk : ∀ b1 b2 N tk, (chkOf w.params b1 b2 rules c D U pre N tk (tags b2) sp).lhs = (chkOf w.params b1 b2 rules c D U pre N tk (tags b2) sp).rhs) : CodeSpec pw0 w (ko w.params) D U c pre sp := by
  intro A R s hA hD hU H hw
  have hb := pat_is w.params
  have O := SC0_ok w (w.params.followText "special-get-raises") (w.params.followText "comprehension-iter-twice") rules pre.length hb
  have g := Chk.good _ (chk (w.params.followText "special-get-raises") (w.params.followText "comprehension-iter-twice") (s.heap.objs.size - 16) s.toks)
  have hsz : Nat.add (s.heap.objs.size - 16) 16 = s.heap.objs.size := Nat.sub_add_cancel (O.size _ fun b o e => H.old b o e)
  unfold chkOf outOf at g
  rw [hsz] at g
  have I : Inv pre.length ⟨pw0, w, ko w.params, pre.map (fun x : Addr × Obj => x.1), s.heap, A, R, s.gens, s.drawn, s.os⟩ s.heap (mkT pre) pre.length s.heap.objs.size := inv_start H
  have SS := sim_sound2 (S := SC0 w.params (w.params.followText "special-get-raises") (w.params.followText "comprehension-iter-twice") rules pre.length) (V := ⟨pw0, w, ko w.params, pre.map (fun x : Addr × Obj => x.1), s.heap, A, R, s.gens, s.drawn, s.os⟩) O rfl (fun _ _ e => e) hr 1000000
  exact code_sound (V := ⟨pw0, w, ko w.params, pre.map (fun x : Addr × Obj => x.1), s.heap, A, R, s.gens, s.drawn, s.os⟩) O rfl (fun _ _ e => e) hr SS (κ := .base) g hw ⟨I, ⟨hA, hD, hU⟩, trivial⟩
noncomputable def iv (n : Nat → Nat) (t : Nat → Tok) (i : Nat) : Value := .int (Int.ofNat (n i)) (t i)
noncomputable def six (f : Nat → Value) : List Value := [f 0, f 1, f 2, f 3, f 4, f 5]
noncomputable def trips : List (Nat × Nat × Nat) := [(0, 1, 2), (0, 1, 3), (0, 1, 4), (0, 1, 5), (0, 2, 3), (0, 2, 4), (0, 2, 5), (0, 3, 4), (0, 3, 5), (0, 4, 5), (1, 2, 3), (1, 2, 4), (1, 2, 5), (1, 3, 4), (1, 3, 5), (1, 4, 5), (2, 3, 4), (2, 3, 5), (2, 4, 5), (3, 4, 5)]
noncomputable abbrev cTH (a : Addr) : Code := .call (.ref 265) ⟨[.ref a], []⟩
noncomputable def refsAt (ws : List Nat) : Nat → Nat → List Value
  | _, 0 => []
  | i, k + 1 => .ref (ws.getD i 0) :: refsAt ws (i + 1) k
noncomputable def tripObjs (f : Nat → Value) (ws : List Nat) : Nat → List (Nat × Nat × Nat) → List (Addr × Obj)
  | _, [] => []
  | i, p :: l => (ws.getD i 0, oTup [f p.1, f p.2.1, f p.2.2]) :: tripObjs f ws (i + 1) l
noncomputable def thSpec (n : Nat → Nat) (t : Nat → Tok) (e : Nat) : Spec :=
  .leaf witNews (fun ws => ⟨.res (.ok (.ret (.ref (ws.getD 0 0)))), [oList (six (iv n t)) e], (ws.getD 0 0, oList (refsAt ws 1 20) 20) :: tripObjs (iv n t) ws 1 trips⟩)
noncomputable def tgTH : Bool → Tg
  | true => (gl g0 [1, 0, 0, 3, 3, 0, 0, 0, 0, 0, 0, 4, 4, 0, 4, 0, 4, 4, 4, 0, 4, 0, 4, 4, 4, 5, 0, 0, 5, 0, 5, 0, 5, 5, 5, 5, 5, 5, 5, 7, 7, 0, 0, 7, 0, 0, 0, 0, 0, 0, 8, 8, 0, 8, 0, 8, 8, 8, 0, 8, 0, 8, 8, 8, 9, 0, 0, 9, 0, 9, 0, 9, 9, 9, 9, 9, 9, 9, 7, 7, 0, 0, 7, 0, 0, 0, 0, 0, 0, 10, 10, 0, 10, 0, 10, 10, 10, 0, 10, 0, 10, 10, 10, 11, 0, 0, 11, 0, 11, 0, 11, 11, 11, 11, 11, 11, 11, 7, 7, 3, 7, 1, 1, 1, 0, 1, 0, 1, 3, 7, 1, 1, 1, 0, 1, 0, 1, 3, 7, 1, 1, 1, 0, 1, 0, 1, 0, 6, 0, 6, 6, 6, 0, 11, 0, 11, 0, 11, 11, 11, 11, 11, 11, 11, 7, 7, 3, 7, 1, 1, 1, 0, 1, 0, 1, 3, 7, 1, 1, 1, 0, 1, 0, 1, 3, 7, 1, 1, 1, 0, 1, 0, 1, 0, 6, 0, 6, 6, 6, 0, 11, 0, 11, 0, 11, 11, 11, 11, 11, 11, 11, 7, 7, 3, 7, 1, 1, 1, 0, 1, 0, 1, 3, 7, 1, 1, 1, 0, 1, 0, 1, 3, 7, 1, 1, 1, 0, 1, 0, 1, 0, 6, 0, 6, 6, 6, 0, 11, 0, 11, 0, 11, 11, 11, 11, 11, 11, 11, 7, 7, 3, 7, 1, 1, 1, 0, 1, 0, 1, 3, 7, 1, 1, 1, 0, 1, 0, 1, 3, 7, 1, 1, 1, 0, 1, 0, 1, 0, 6, 0, 6, 6, 6, 0, 11, 0, 11, 0, 11, 11, 11, 17, 0, 9, 0, 9, 0, 9, 9, 9, 9, 9, 9, 9, 7, 7, 0, 0, 7, 0, 0, 0, 0, 0, 0, 18, 18, 0, 18, 0, 18, 18, 18, 0, 18, 0, 18, 18, 18, 19, 0, 0, 19, 0, 19, 0, 19, 19, 19, 19, 19, 19, 19, 7, 7, 3, 7, 1, 1, 1, 0, 1, 0, 1, 3, 7, 1, 1, 1, 0, 1, 0, 1, 3, 7, 1, 1, 1, 0, 1, 0, 1, 0, 6, 0, 6, 6, 6, 0, 19, 0, 19, 0, 19, 19, 19, 19, 19, 19, 19, 7, 7, 3, 7, 1, 1, 1, 0, 1, 0, 1, 3, 7, 1, 1, 1, 0, 1, 0, 1, 3, 7, 1, 1, 1, 0, 1, 0, 1, 0, 6, 0, 6, 6, 6, 0, 19, 0, 19, 0, 19, 19, 19, 19, 19, 19, 19, 7, 7, 3, 7, 1, 1, 1, 0, 1, 0, 1, 3, 7, 1, 1, 1, 0, 1, 0, 1, 3, 7, 1, 1, 1, 0, 1, 0, 1, 0, 6, 0, 6, 6, 6, 0, 19, 0, 19, 0, 19, 19, 19, 24, 0, 9, 0, 9, 0, 9, 9, 9, 9, 9, 9, 9, 7, 7, 0, 0, 7, 0, 0, 0, 0, 0, 0, 25, 25, 0, 25, 0, 25, 25, 25, 0, 25, 0, 25, 25, 25, 26, 0, 0, 26, 0, 26, 0, 26, 26, 26, 26, 26, 26, 26, 7, 7, 3, 7, 1, 1, 1, 0, 1, 0, 1, 3, 7, 1, 1, 1, 0, 1, 0, 1, 3, 7, 1, 1, 1, 0, 1, 0, 1, 0, 6, 0, 6, 6, 6, 0, 26, 0, 26, 0, 26, 26, 26, 26, 26, 26, 26, 7, 7, 3, 7, 1, 1, 1, 0, 1, 0, 1, 3, 7, 1, 1, 1, 0, 1, 0, 1, 3, 7, 1, 1, 1, 0, 1, 0, 1, 0, 6, 0, 6, 6, 6, 0, 26, 0, 26, 0, 26, 26, 26, 30, 0, 9, 0, 9, 0, 9, 9, 9, 9, 9, 9, 9, 7, 7, 0, 0, 7, 0, 0, 0, 0, 0, 0, 31, 31, 0, 31, 0, 31, 31, 31, 0, 31, 0, 31, 31, 31, 32, 0, 0, 32, 0, 32, 0, 32, 32, 32, 32, 32, 32, 32, 7, 7, 3, 7, 1, 1, 1, 0, 1, 0, 1, 3, 7, 1, 1, 1, 0, 1, 0, 1, 3, 7, 1, 1, 1, 0, 1, 0, 1, 0, 6, 0, 6, 6, 6, 0, 32, 0, 32, 0, 32, 32, 32, 35, 0, 9, 0, 9, 0, 9, 9, 9, 37, 0, 5, 0, 5, 0, 5, 5, 5, 5, 5, 5, 5, 7, 7, 0, 0, 7, 0, 0, 0, 0, 0, 0, 38, 38, 0, 38, 0, 38, 38, 38, 0, 38, 0, 38, 38, 38, 39, 0, 0, 39, 0, 39, 0, 39, 39, 39, 39, 39, 39, 39, 7, 7, 0, 0, 7, 0, 0, 0, 0, 0, 0, 40, 40, 0, 40, 0, 40, 40, 40, 0, 40, 0, 40, 40, 40, 41, 0, 0, 41, 0, 41, 0, 41, 41, 41, 41, 41, 41, 41, 7, 7, 3, 7, 1, 1, 1, 0, 1, 0, 1, 3, 7, 1, 1, 1, 0, 1, 0, 1, 3, 7, 1, 1, 1, 0, 1, 0, 1, 0, 6, 0, 6, 6, 6, 0, 41, 0, 41, 0, 41, 41, 41, 41, 41, 41, 41, 7, 7, 3, 7, 1, 1, 1, 0, 1, 0, 1, 3, 7, 1, 1, 1, 0, 1, 0, 1, 3, 7, 1, 1, 1, 0, 1, 0, 1, 0, 6, 0, 6, 6, 6, 0, 41, 0, 41, 0, 41, 41, 41, 41, 41, 41, 41, 7, 7, 3, 7, 1, 1, 1, 0, 1, 0, 1, 3, 7, 1, 1, 1, 0, 1, 0, 1, 3, 7, 1, 1, 1, 0, 1, 0, 1, 0, 6, 0, 6, 6, 6, 0, 41, 0, 41, 0, 41, 41, 41, 46, 0, 39, 0, 39, 0, 39, 39, 39, 39, 39, 39, 39, 7, 7, 0, 0, 7, 0, 0, 0, 0, 0, 0, 47, 47, 0, 47, 0, 47, 47, 47, 0, 47, 0, 47, 47, 47, 48, 0, 0, 48, 0, 48, 0, 48, 48, 48, 48, 48, 48, 48, 7, 7, 3, 7, 1, 1, 1, 0, 1, 0, 1, 3, 7, 1, 1, 1, 0, 1, 0, 1, 3, 7, 1, 1, 1, 0, 1, 0, 1, 0, 6, 0, 6, 6, 6, 0, 48, 0, 48, 0, 48, 48, 48, 48, 48, 48, 48, 7, 7, 3, 7, 1, 1, 1, 0, 1, 0, 1, 3, 7, 1, 1, 1, 0, 1, 0, 1, 3, 7, 1, 1, 1, 0, 1, 0, 1, 0, 6, 0, 6, 6, 6, 0, 48, 0, 48, 0, 48, 48, 48, 52, 0, 39, 0, 39, 0, 39, 39, 39, 39, 39, 39, 39, 7, 7, 0, 0, 7, 0, 0, 0, 0, 0, 0, 53, 53, 0, 53, 0, 53, 53, 53, 0, 53, 0, 53, 53, 53, 54, 0, 0, 54, 0, 54, 0, 54, 54, 54, 54, 54, 54, 54, 7, 7, 3, 7, 1, 1, 1, 0, 1, 0, 1, 3, 7, 1, 1, 1, 0, 1, 0, 1, 3, 7, 1, 1, 1, 0, 1, 0, 1, 0, 6, 0, 6, 6, 6, 0, 54, 0, 54, 0, 54, 54, 54, 57, 0, 39, 0, 39, 0, 39, 39, 39, 59, 0, 5, 0, 5, 0, 5, 5, 5, 5, 5, 5, 5, 7, 7, 0, 0, 7, 0, 0, 0, 0, 0, 0, 60, 60, 0, 60, 0, 60, 60, 60, 0, 60, 0, 60, 60, 60, 61, 0, 0, 61, 0, 61, 0, 61, 61, 61, 61, 61, 61, 61, 7, 7, 0, 0, 7, 0, 0, 0, 0, 0, 0, 62, 62, 0, 62, 0, 62, 62, 62, 0, 62, 0, 62, 62, 62, 63, 0, 0, 63, 0, 63, 0, 63, 63, 63, 63, 63, 63, 63, 7, 7, 3, 7, 1, 1, 1, 0, 1, 0, 1, 3, 7, 1, 1, 1, 0, 1, 0, 1, 3, 7, 1, 1, 1, 0, 1, 0, 1, 0, 6, 0, 6, 6, 6, 0, 63, 0, 63, 0, 63, 63, 63, 63, 63, 63, 63, 7, 7, 3, 7, 1, 1, 1, 0, 1, 0, 1, 3, 7, 1, 1, 1, 0, 1, 0, 1, 3, 7, 1, 1, 1, 0, 1, 0, 1, 0, 6, 0, 6, 6, 6, 0, 63, 0, 63, 0, 63, 63, 63, 67, 0, 61, 0, 61, 0, 61, 61, 61, 61, 61, 61, 61, 7, 7, 0, 0, 7, 0, 0, 0, 0, 0, 0, 68, 68, 0, 68, 0, 68, 68, 68, 0, 68, 0, 68, 68, 68, 69, 0, 0, 69, 0, 69, 0, 69, 69, 69, 69, 69, 69, 69, 7, 7, 3, 7, 1, 1, 1, 0, 1, 0, 1, 3, 7, 1, 1, 1, 0, 1, 0, 1, 3, 7, 1, 1, 1, 0, 1, 0, 1, 0, 6, 0, 6, 6, 6, 0, 69, 0, 69, 0, 69, 69, 69, 72, 0, 61, 0, 61, 0, 61, 61, 61, 74, 0, 5, 0, 5, 0, 5, 5, 5, 5, 5, 5, 5, 7, 7, 0, 0, 7, 0, 0, 0, 0, 0, 0, 75, 75, 0, 75, 0, 75, 75, 75, 0, 75, 0, 75, 75, 75, 76, 0, 0, 76, 0, 76, 0, 76, 76, 76, 76, 76, 76, 76, 7, 7, 0, 0, 7, 0, 0, 0, 0, 0, 0, 77, 77, 0, 77, 0, 77, 77, 77, 0, 77, 0, 77, 77, 77, 78, 0, 0, 78, 0, 78, 0, 78, 78, 78, 78, 78, 78, 78, 7, 7, 3, 7, 1, 1, 1, 0, 1, 0, 1, 3, 7, 1, 1, 1, 0, 1, 0, 1, 3, 7, 1, 1, 1, 0, 1, 0, 1, 0, 6, 0, 6, 6, 6, 0, 78, 0, 78, 0, 78, 78, 78, 81, 0, 76, 0, 76, 0, 76, 76, 76, 83, 0, 5, 0, 5, 0, 5, 5, 5, 85, 7, 7, 7, 7, 7, 7, 7, 7, 7, 5, 11, 12, 13, 14, 19, 20, 21, 26, 27, 32, 41, 42, 43, 48, 49, 54, 63, 64, 69, 78])
  | false => (gl g0 [1, 0, 0, 3, 3, 0, 0, 0, 0, 0, 0, 4, 4, 0, 4, 0, 4, 4, 4, 0, 4, 0, 4, 4, 4, 5, 0, 5, 5, 0, 5, 0, 5, 0, 5, 0, 5, 0, 5, 5, 5, 5, 5, 5, 5, 7, 7, 0, 0, 7, 0, 0, 0, 0, 0, 0, 8, 8, 0, 8, 0, 8, 8, 8, 0, 8, 0, 8, 8, 8, 9, 0, 9, 9, 0, 9, 0, 9, 0, 9, 0, 9, 0, 9, 9, 9, 9, 9, 9, 9, 7, 7, 0, 0, 7, 0, 0, 0, 0, 0, 0, 10, 10, 0, 10, 0, 10, 10, 10, 0, 10, 0, 10, 10, 10, 11, 0, 11, 11, 0, 11, 0, 11, 0, 11, 0, 11, 0, 11, 11, 11, 11, 11, 11, 11, 7, 7, 3, 7, 1, 1, 1, 0, 1, 0, 1, 3, 7, 1, 1, 1, 0, 1, 0, 1, 3, 7, 1, 1, 1, 0, 1, 0, 1, 0, 6, 0, 6, 6, 6, 0, 11, 0, 11, 0, 11, 11, 11, 11, 11, 11, 11, 7, 7, 3, 7, 1, 1, 1, 0, 1, 0, 1, 3, 7, 1, 1, 1, 0, 1, 0, 1, 3, 7, 1, 1, 1, 0, 1, 0, 1, 0, 6, 0, 6, 6, 6, 0, 11, 0, 11, 0, 11, 11, 11, 11, 11, 11, 11, 7, 7, 3, 7, 1, 1, 1, 0, 1, 0, 1, 3, 7, 1, 1, 1, 0, 1, 0, 1, 3, 7, 1, 1, 1, 0, 1, 0, 1, 0, 6, 0, 6, 6, 6, 0, 11, 0, 11, 0, 11, 11, 11, 11, 11, 11, 11, 7, 7, 3, 7, 1, 1, 1, 0, 1, 0, 1, 3, 7, 1, 1, 1, 0, 1, 0, 1, 3, 7, 1, 1, 1, 0, 1, 0, 1, 0, 6, 0, 6, 6, 6, 0, 11, 0, 11, 0, 11, 11, 11, 17, 0, 9, 0, 9, 0, 9, 9, 9, 9, 9, 9, 9, 7, 7, 0, 0, 7, 0, 0, 0, 0, 0, 0, 18, 18, 0, 18, 0, 18, 18, 18, 0, 18, 0, 18, 18, 18, 19, 0, 19, 19, 0, 19, 0, 19, 0, 19, 0, 19, 0, 19, 19, 19, 19, 19, 19, 19, 7, 7, 3, 7, 1, 1, 1, 0, 1, 0, 1, 3, 7, 1, 1, 1, 0, 1, 0, 1, 3, 7, 1, 1, 1, 0, 1, 0, 1, 0, 6, 0, 6, 6, 6, 0, 19, 0, 19, 0, 19, 19, 19, 19, 19, 19, 19, 7, 7, 3, 7, 1, 1, 1, 0, 1, 0, 1, 3, 7, 1, 1, 1, 0, 1, 0, 1, 3, 7, 1, 1, 1, 0, 1, 0, 1, 0, 6, 0, 6, 6, 6, 0, 19, 0, 19, 0, 19, 19, 19, 19, 19, 19, 19, 7, 7, 3, 7, 1, 1, 1, 0, 1, 0, 1, 3, 7, 1, 1, 1, 0, 1, 0, 1, 3, 7, 1, 1, 1, 0, 1, 0, 1, 0, 6, 0, 6, 6, 6, 0, 19, 0, 19, 0, 19, 19, 19, 24, 0, 9, 0, 9, 0, 9, 9, 9, 9, 9, 9, 9, 7, 7, 0, 0, 7, 0, 0, 0, 0, 0, 0, 25, 25, 0, 25, 0, 25, 25, 25, 0, 25, 0, 25, 25, 25, 26, 0, 26, 26, 0, 26, 0, 26, 0, 26, 0, 26, 0, 26, 26, 26, 26, 26, 26, 26, 7, 7, 3, 7, 1, 1, 1, 0, 1, 0, 1, 3, 7, 1, 1, 1, 0, 1, 0, 1, 3, 7, 1, 1, 1, 0, 1, 0, 1, 0, 6, 0, 6, 6, 6, 0, 26, 0, 26, 0, 26, 26, 26, 26, 26, 26, 26, 7, 7, 3, 7, 1, 1, 1, 0, 1, 0, 1, 3, 7, 1, 1, 1, 0, 1, 0, 1, 3, 7, 1, 1, 1, 0, 1, 0, 1, 0, 6, 0, 6, 6, 6, 0, 26, 0, 26, 0, 26, 26, 26, 30, 0, 9, 0, 9, 0, 9, 9, 9, 9, 9, 9, 9, 7, 7, 0, 0, 7, 0, 0, 0, 0, 0, 0, 31, 31, 0, 31, 0, 31, 31, 31, 0, 31, 0, 31, 31, 31, 32, 0, 32, 32, 0, 32, 0, 32, 0, 32, 0, 32, 0, 32, 32, 32, 32, 32, 32, 32, 7, 7, 3, 7, 1, 1, 1, 0, 1, 0, 1, 3, 7, 1, 1, 1, 0, 1, 0, 1, 3, 7, 1, 1, 1, 0, 1, 0, 1, 0, 6, 0, 6, 6, 6, 0, 32, 0, 32, 0, 32, 32, 32, 35, 0, 9, 0, 9, 0, 9, 9, 9, 37, 0, 5, 0, 5, 0, 5, 5, 5, 5, 5, 5, 5, 7, 7, 0, 0, 7, 0, 0, 0, 0, 0, 0, 38, 38, 0, 38, 0, 38, 38, 38, 0, 38, 0, 38, 38, 38, 39, 0, 39, 39, 0, 39, 0, 39, 0, 39, 0, 39, 0, 39, 39, 39, 39, 39, 39, 39, 7, 7, 0, 0, 7, 0, 0, 0, 0, 0, 0, 40, 40, 0, 40, 0, 40, 40, 40, 0, 40, 0, 40, 40, 40, 41, 0, 41, 41, 0, 41, 0, 41, 0, 41, 0, 41, 0, 41, 41, 41, 41, 41, 41, 41, 7, 7, 3, 7, 1, 1, 1, 0, 1, 0, 1, 3, 7, 1, 1, 1, 0, 1, 0, 1, 3, 7, 1, 1, 1, 0, 1, 0, 1, 0, 6, 0, 6, 6, 6, 0, 41, 0, 41, 0, 41, 41, 41, 41, 41, 41, 41, 7, 7, 3, 7, 1, 1, 1, 0, 1, 0, 1, 3, 7, 1, 1, 1, 0, 1, 0, 1, 3, 7, 1, 1, 1, 0, 1, 0, 1, 0, 6, 0, 6, 6, 6, 0, 41, 0, 41, 0, 41, 41, 41, 41, 41, 41, 41, 7, 7, 3, 7, 1, 1, 1, 0, 1, 0, 1, 3, 7, 1, 1, 1, 0, 1, 0, 1, 3, 7, 1, 1, 1, 0, 1, 0, 1, 0, 6, 0, 6, 6, 6, 0, 41, 0, 41, 0, 41, 41, 41, 46, 0, 39, 0, 39, 0, 39, 39, 39, 39, 39, 39, 39, 7, 7, 0, 0, 7, 0, 0, 0, 0, 0, 0, 47, 47, 0, 47, 0, 47, 47, 47, 0, 47, 0, 47, 47, 47, 48, 0, 48, 48, 0, 48, 0, 48, 0, 48, 0, 48, 0, 48, 48, 48, 48, 48, 48, 48, 7, 7, 3, 7, 1, 1, 1, 0, 1, 0, 1, 3, 7, 1, 1, 1, 0, 1, 0, 1, 3, 7, 1, 1, 1, 0, 1, 0, 1, 0, 6, 0, 6, 6, 6, 0, 48, 0, 48, 0, 48, 48, 48, 48, 48, 48, 48, 7, 7, 3, 7, 1, 1, 1, 0, 1, 0, 1, 3, 7, 1, 1, 1, 0, 1, 0, 1, 3, 7, 1, 1, 1, 0, 1, 0, 1, 0, 6, 0, 6, 6, 6, 0, 48, 0, 48, 0, 48, 48, 48, 52, 0, 39, 0, 39, 0, 39, 39, 39, 39, 39, 39, 39, 7, 7, 0, 0, 7, 0, 0, 0, 0, 0, 0, 53, 53, 0, 53, 0, 53, 53, 53, 0, 53, 0, 53, 53, 53, 54, 0, 54, 54, 0, 54, 0, 54, 0, 54, 0, 54, 0, 54, 54, 54, 54, 54, 54, 54, 7, 7, 3, 7, 1, 1, 1, 0, 1, 0, 1, 3, 7, 1, 1, 1, 0, 1, 0, 1, 3, 7, 1, 1, 1, 0, 1, 0, 1, 0, 6, 0, 6, 6, 6, 0, 54, 0, 54, 0, 54, 54, 54, 57, 0, 39, 0, 39, 0, 39, 39, 39, 59, 0, 5, 0, 5, 0, 5, 5, 5, 5, 5, 5, 5, 7, 7, 0, 0, 7, 0, 0, 0, 0, 0, 0, 60, 60, 0, 60, 0, 60, 60, 60, 0, 60, 0, 60, 60, 60, 61, 0, 61, 61, 0, 61, 0, 61, 0, 61, 0, 61, 0, 61, 61, 61, 61, 61, 61, 61, 7, 7, 0, 0, 7, 0, 0, 0, 0, 0, 0, 62, 62, 0, 62, 0, 62, 62, 62, 0, 62, 0, 62, 62, 62, 63, 0, 63, 63, 0, 63, 0, 63, 0, 63, 0, 63, 0, 63, 63, 63, 63, 63, 63, 63, 7, 7, 3, 7, 1, 1, 1, 0, 1, 0, 1, 3, 7, 1, 1, 1, 0, 1, 0, 1, 3, 7, 1, 1, 1, 0, 1, 0, 1, 0, 6, 0, 6, 6, 6, 0, 63, 0, 63, 0, 63, 63, 63, 63, 63, 63, 63, 7, 7, 3, 7, 1, 1, 1, 0, 1, 0, 1, 3, 7, 1, 1, 1, 0, 1, 0, 1, 3, 7, 1, 1, 1, 0, 1, 0, 1, 0, 6, 0, 6, 6, 6, 0, 63, 0, 63, 0, 63, 63, 63, 67, 0, 61, 0, 61, 0, 61, 61, 61, 61, 61, 61, 61, 7, 7, 0, 0, 7, 0, 0, 0, 0, 0, 0, 68, 68, 0, 68, 0, 68, 68, 68, 0, 68, 0, 68, 68, 68, 69, 0, 69, 69, 0, 69, 0, 69, 0, 69, 0, 69, 0, 69, 69, 69, 69, 69, 69, 69, 7, 7, 3, 7, 1, 1, 1, 0, 1, 0, 1, 3, 7, 1, 1, 1, 0, 1, 0, 1, 3, 7, 1, 1, 1, 0, 1, 0, 1, 0, 6, 0, 6, 6, 6, 0, 69, 0, 69, 0, 69, 69, 69, 72, 0, 61, 0, 61, 0, 61, 61, 61, 74, 0, 5, 0, 5, 0, 5, 5, 5, 5, 5, 5, 5, 7, 7, 0, 0, 7, 0, 0, 0, 0, 0, 0, 75, 75, 0, 75, 0, 75, 75, 75, 0, 75, 0, 75, 75, 75, 76, 0, 76, 76, 0, 76, 0, 76, 0, 76, 0, 76, 0, 76, 76, 76, 76, 76, 76, 76, 7, 7, 0, 0, 7, 0, 0, 0, 0, 0, 0, 77, 77, 0, 77, 0, 77, 77, 77, 0, 77, 0, 77, 77, 77, 78, 0, 78, 78, 0, 78, 0, 78, 0, 78, 0, 78, 0, 78, 78, 78, 78, 78, 78, 78, 7, 7, 3, 7, 1, 1, 1, 0, 1, 0, 1, 3, 7, 1, 1, 1, 0, 1, 0, 1, 3, 7, 1, 1, 1, 0, 1, 0, 1, 0, 6, 0, 6, 6, 6, 0, 78, 0, 78, 0, 78, 78, 78, 81, 0, 76, 0, 76, 0, 76, 76, 76, 83, 0, 5, 0, 5, 0, 5, 5, 5, 85, 7, 7, 7, 7, 7, 7, 7, 7, 7, 5, 11, 12, 13, 14, 19, 20, 21, 26, 27, 32, 41, 42, 43, 48, 49, 54, 63, 64, 69, 78])
noncomputable abbrev ckTH (P : Params) (b1 b2 : Bool) (a : Addr) (n : Nat → Nat) (t : Nat → Tok) (e N tk : Nat) : Chk :=
  chkOf P b1 b2 [] (cTH a) 320 3700 [(a, oList (six (iv n t)) e)] N tk (tgTH b2) (thSpec n t e)
set_option maxHeartbeats 0
theorem th_chk (P : Params) (b1 b2 : Bool) (a : Addr) (n : Nat → Nat) (t : Nat → Tok) (e N tk : Nat) : (ckTH P b1 b2 a n t e N tk).lhs = (ckTH P b1 b2 a n t e N tk).rhs := by
  cases b1 <;> cases b2 <;> kernel_rfl
theorem th_spec (w : World) (a : Addr) (n : Nat → Nat) (t : Nat → Tok) (e : Nat) : CodeSpec pw0 w (ko w.params) 320 3700 (cTH a) [(a, oList (six (iv n t)) e)] (thSpec n t e) :=
  spec_ofT (tags := tgTH) w (no_rules w _) fun b1 b2 N tk => th_chk w.params b1 b2 a n t e N tk
end Mine

namespace Mine
open PySem PySem.Spec PySem.Calls PyProof.Rows PySem.W PySem.W.X

theorem mkI_length (f : Nat → Tok) : ∀ (i : Nat) (l : List Nat), (mkI f i l).length = l.length
  | _, [] => rfl
  | i, n :: l => by simp [mkI, mkI_length f (i + 1) l]
theorem mkI_get (f : Nat → Tok) : ∀ (i : Nat) (l : List Nat) (k : Nat), (mkI f i l)[k]? = l[k]?.map fun n => .int (Int.ofNat n) (f (i + k))
  | _, [], k => by simp [mkI]
  | i, n :: l, 0 => by simp [mkI]
  | i, n :: l, k + 1 => by
    simp only [mkI, List.getElem?_cons_succ]
    rw [mkI_get f (i + 1) l k, show i + 1 + k = i + (k + 1) from by omega]
noncomputable def iVal (v : Value) : Option Int := match v with
  | .int i _ => some i
  | _ => none
noncomputable def iVals (l : List Nat) : List (Option Int) := l.map fun n => some (Int.ofNat n)
theorem mkI_vals (f : Nat → Tok) : ∀ (i : Nat) (l : List Nat), (mkI f i l).map iVal = iVals l
  | _, [] => rfl
  | i, n :: l => by
    show iVal _ :: (mkI f (i + 1) l).map iVal = some (Int.ofNat n) :: iVals l
    rw [mkI_vals f (i + 1) l]
    rfl
/-- a list of ints by its ints -/
theorem mkI_of {lv : List Value} {l : List Nat} (h : lv.map iVal = iVals l) (d : Nat) (pre : List Nat) (hd : pre.length = d) : lv = mkI (fun i => (pre ++ lv.map iTok).getD (i + d) 0) 0 l := by
  apply List.ext_getElem?
  intro k
  rw [mkI_get]
  have e1 : (lv.map iVal)[k]? = (iVals l)[k]? := by rw [h]
  unfold iVals at e1
  rw [List.getElem?_map, List.getElem?_map] at e1
  cases q : lv[k]? with
  | none =>
    rw [q] at e1
    cases q2 : l[k]? with
    | none => rfl
    | some n => rw [q2] at e1; cases e1
  | some p =>
    rw [q] at e1
    cases q2 : l[k]? with
    | none => rw [q2] at e1; cases e1
    | some n =>
      rw [q2] at e1
      simp only [Option.map_some, Option.some.injEq] at e1 ⊢
      have e2 : (pre ++ lv.map iTok).getD (0 + k + d) 0 = iTok p := by
        rw [List.getD_eq_getElem?_getD, List.getElem?_append_right (by omega), show 0 + k + d - pre.length = k from by omega, List.getElem?_map, q]
        rfl
      rw [e2]
      cases p <;> first | cases e1 | skip
      rfl
theorem mkI_are (f : Nat → Tok) : ∀ (i : Nat) (l : List Nat), IntsAre (mkI f i l) (l.map Int.ofNat)
  | _, [] => .nil
  | i, n :: l => .cons _ _ (mkI_are f (i + 1) l)
theorem are_vals : ∀ {lv : List Value} {ns : List Int}, IntsAre lv ns → lv.map iVal = ns.map some
  | _, _, .nil => rfl
  | _, _, .cons n t r => by
    simp only [List.map_cons, are_vals r]
    rfl
noncomputable def tkI (o : Obj) (i : Nat) : Tok := iTok ((itemsOf o).getD i .none)
noncomputable def oInts (f : Nat → Tok) (l : List Nat) (e : Nat) : Obj := oList (mkI f 0 l) e
/-- a remainder that is known -/
noncomputable def rMod (v d : Int) (m : Nat) : RuleD where
  D := 950
  U := 9000
  code cd _ := .builtin (idOf cd) ⟨[.int v (argT cd 0), .int d (argT cd 1)], []⟩
  objs _ _ := []
  spec cd _ := ifId 116512097088030077292474218 cd (.leaf (fun _ => []) (fun ws => ⟨.res (.ok (.ret (.int (Int.ofNat m) (ws.getD 0 0)))), [], []⟩))
theorem rMod_ok (prog : Program) (w : World) (kt : Addr → Obj → Prop) {v d : Int} {m : Nat} (hd : ¬ (d == 0) = true) (hm : v.fmod d = Int.ofNat m) : RuleD.Ok prog w kt (rMod v d m) := by
  intro c es he A R s hA hD hU H hw
  unfold rMod ifId at hw ⊢
  dsimp only at hw ⊢
  have he : es = [] := he
  subst he
  split at hw
  · rename_i hid
    have hid := eqLit_is "int.__mod__" (by decide +kernel) hid
    try rw [hid]
    rw [← hm] at hw
    refine code_of_gives F.entry_int_mod (by decide +kernel) (AutoIntG6.int___mod___int_int_1 v (argT c 0) d (argT c 1) hd) ?_
    exact hw [s.toks] s.heap (s.toks + 1) (ends_nil H)
  · cases hw
/-- two ints compared for equality, the answer asked -/
noncomputable def rEqA (x y : Nat) : RuleD where
  D := 950
  U := 9000
  code cd _ := .builtin (idOf cd) ⟨[.int (Int.ofNat x) (argT cd 0), .int (Int.ofNat y) (argT cd 1)], []⟩
  objs _ _ := []
  spec cd _ := ifId 455126313168696235093866 cd (.ask (Nat.beq x y) (.leaf (fun _ => []) (fun _ => ⟨.res (.ok (.ret (.bool true))), [], []⟩)) (.leaf (fun _ => []) (fun _ => ⟨.res (.ok (.ret (.bool false))), [], []⟩)))
theorem rEqA_ok (prog : Program) (w : World) (kt : Addr → Obj → Prop) (x y : Nat) : RuleD.Ok prog w kt (rEqA x y) := by
  intro c es he A R s hA hD hU H hw
  unfold rEqA ifId at hw ⊢
  dsimp only at hw ⊢
  have he : es = [] := he
  subst he
  split at hw
  · rename_i hid
    have hid := eqLit_is "int.__eq__" (by decide +kernel) hid
    try rw [hid]
    refine code_of_gives PySem.F.entry_int_eq (by decide +kernel) (gives_int_eq (Int.ofNat x) (Int.ofNat y) (argT c 0) (argT c 1)) ?_
    show R (.ok (.ret (.bool (Int.ofNat x == Int.ofNat y)))) s
    have e : (Int.ofNat x == Int.ofNat y) = Nat.beq x y := by
      rw [BT.beq_eq]
      by_cases q : x = y
      · subst q; simp
      · rw [decide_eq_false q, beq_eq_false_iff_ne]
        intro e; exact q (by injection e)
    rw [e]
    cases q : Nat.beq x y with
    | true => exact hw.1 q [] s.heap s.toks (ends_nil H)
    | false => exact hw.2 q [] s.heap s.toks (ends_nil H)
  · cases hw
/-- two texts glued, known -/
noncomputable def rAddK (x y z : Str) : RuleD where
  D := 900
  U := 9000
  code cd _ := .builtin (idOf cd) ⟨[.str x (argST cd 0), .str y (argST cd 1)], []⟩
  objs _ _ := []
  spec cd _ := ifId 116512096292018843154609524 cd (.leaf (fun _ => []) (fun ws => ⟨.res (.ok (.ret (.str z (ws.getD 0 0)))), [], []⟩))
theorem rAddK_ok (prog : Program) (w : World) (kt : Addr → Obj → Prop) {x y z : Str} (h : x ++ y = z) (hl : x.length + y.length ≤ 1000) : RuleD.Ok prog w kt (rAddK x y z) := by
  intro cd es he
  have he : es = [] := he
  subst he
  have q := rAdd_ok prog w kt (.builtin (idOf cd) ⟨[.str x (argST cd 0), .str y (argST cd 1)], []⟩) [] rfl
  refine q.mono fun V hw => ?_
  unfold rAddK ifId at hw
  unfold rAdd ifId
  dsimp only at hw ⊢
  show wpS V (match S.eqLit 116512096292018843154609524 (idOf cd) with | true => _ | false => _)
  split at hw
  · rename_i hid
    try rw [hid]
    refine ⟨hl, ?_⟩
    rw [← h] at hw
    exact hw
  · cases hw
noncomputable def repS (x : Str) (n : Nat) : Str := ⟨(List.replicate n x.cps).foldl (· ++ ·) #[]⟩
/-- a text taken n times, known -/
noncomputable def rMulK (x : Str) (n : Nat) (z : Str) : RuleD where
  D := 900
  U := 9000
  code cd _ := .builtin (idOf cd) ⟨[.str x (argST cd 0), .int (Int.ofNat n) (argT cd 1)], []⟩
  objs _ _ := []
  spec cd _ := ifId 116512245094328231196325236 cd (.leaf (fun _ => []) (fun ws => ⟨.res (.ok (.ret (.str z (ws.getD 0 0)))), [], []⟩))
theorem rMulK_ok (prog : Program) (w : World) (kt : Addr → Obj → Prop) {x z : Str} {n : Nat} (h1 : 1 ≤ n) (h6 : n ≤ 6) (hx : x.length ≤ 2) (h : repS x n = z) (h0 : n = 1 → x = z) (hx0 : x.length ≠ 0) : RuleD.Ok prog w kt (rMulK x n z) := by
  intro c es he A R s hA hD hU H hw
  unfold rMulK ifId at hw ⊢
  dsimp only at hw ⊢
  have he : es = [] := he
  subst he
  split at hw
  · rename_i hid
    have hid := eqLit_is "str.__mul__" (by decide +kernel) hid
    try rw [hid]
    have hi : Int.ofNat n = (n : Int) := rfl
    refine code_of_gives PySem.F.entry_str_mul (by decide +kernel) (gives_str_mul x (Int.ofNat n) (argST c 0) (argT c 1) ?_ ?_ ?_) ?_
    · rw [hi, Bool.or_eq_false_iff]; constructor <;> (rw [decide_eq_false_iff_not]; omega)
    · intro _ _
      rw [hi]
      have : n = 1 ∨ n = 2 ∨ n = 3 ∨ n = 4 ∨ n = 5 ∨ n = 6 := by omega
      rcases this with rfl | rfl | rfl | rfl | rfl | rfl <;> omega
    · intro _ _
      unfold Builtin.Str.tooLong
      rw [decide_eq_false_iff_not, sizeLine_eq]
      show ¬ (x.length * (Int.ofNat n).toNat > _)
      have : x.length * (Int.ofNat n).toNat ≤ 2 * 6 := Nat.mul_le_mul hx h6
      omega
    · have hn : ¬ (Int.ofNat n < 1) := by rw [hi]; omega
      simp only [hn, if_false]
      by_cases q : n = 1
      · subst q
        have : (Int.ofNat 1 == 1 || x.length == 0) = true := by rw [show (Int.ofNat 1 == 1) = true from rfl]; rfl
        rw [this, if_pos rfl]
        have z := hw [argST c 0] s.heap s.toks (ends_nil H)
        rw [← h0 rfl] at z
        exact z
      · have e1 : (Int.ofNat n == 1) = false := by rw [beq_eq_false_iff_ne, hi]; omega
        have e2 : (x.length == 0) = false := by rw [beq_eq_false_iff_ne]; exact hx0
        rw [e1, e2]
        have z := hw [s.toks] s.heap (s.toks + 1) (ends_nil H)
        rw [← h] at z
        refine ⟨?_, z⟩
        show (repS x n).length ≤ sizeLine
        have hle : ∀ m, (repS x m).length ≤ 2 * m := by
          intro m
          show ((List.replicate m x.cps).foldl (· ++ ·) #[]).size ≤ 2 * m
          have gen : ∀ (m : Nat) (acc : Array Nat), ((List.replicate m x.cps).foldl (· ++ ·) acc).size ≤ acc.size + 2 * m := by
            intro m
            induction m with
            | zero => intro acc; simp
            | succ m ih =>
              intro acc
              rw [List.replicate_succ, List.foldl_cons]
              refine Nat.le_trans (ih _) ?_
              rw [Array.size_append]
              have : x.cps.size ≤ 2 := hx
              omega
          have := gen m #[]
          simpa using this
        have := hle n
        rw [sizeLine_eq]; omega
  · cases hw
end Mine

namespace Mine
open PySem PySem.Spec PySem.Calls PyProof.Rows PySem.W PySem.W.X

/-- one object turned, all else as it stood -/
theorem ends_turned {kt : Addr → Obj → Prop} {h h' : Heap} {a : Addr} {o o' : Obj} {e : End} (H : Start kt h [(a, o)]) (hk : ∀ b ob, b ≠ a → h.get? b = some ob → h'.get? b = some ob) (hn : h'.get? a = some o') : Ends kt [a] h h' ⟨e, [o'], []⟩ := by
  have y := H.own _ List.mem_cons_self
  refine ⟨fun b ob eb => hk b ob ?_ (H.old b ob eb), rfl, fun k b ob e1 e2 => ?_, fun _ hx => (nomatch hx), List.nodup_nil, fun b ob eb hb => hk b ob (by simpa using hb) eb⟩
  · rintro rfl; exact y.2 _ eb
  · cases k with
    | zero =>
      simp only [List.getElem?_cons_zero, Option.some.injEq] at e1 e2
      subst e1; subst e2
      exact hn
    | succ k => simp at e1
/-- one object made, all else as it stood -/
theorem ends_made {kt : Addr → Obj → Prop} {h h' : Heap} {pre : List (Addr × Obj)} {o : Obj} {a : Addr} {e : End} (H : Start kt h pre) (hk : ∀ b ob, h.get? b = some ob → h'.get? b = some ob) (ha : h.get? a = none) (hn : h'.get? a = some o) :
    Ends kt (pre.map (·.1)) h h' ⟨e, pre.map (·.2), [(a, o)]⟩ :=
  ⟨fun b ob eb => hk b ob (H.old b ob eb), by simp, (fun k b ob e1 e2 => by
    rw [List.getElem?_map] at e1 e2
    cases q : pre[k]? with
    | none => rw [q] at e1; cases e1
    | some x =>
      rw [q] at e1 e2
      cases e1; cases e2
      exact hk _ _ (H.own x (List.mem_of_getElem? q)).1),
   (fun x hx => by
    rw [List.mem_singleton] at hx
    subst hx
    refine ⟨hn, ha, fun o' q => ?_⟩
    have := H.old _ _ q
    rw [ha] at this
    cases this), by simp, fun b ob eb _ => hk b ob eb⟩
theorem size_none (h : Heap) : h.get? h.objs.size = none := by
  cases q : h.get? h.objs.size with
  | none => rfl
  | some o => exact absurd (Heap.lt_size q) (Nat.lt_irrefl _)
theorem perm_sorted : ∀ {ns ms : List Int}, ns.Perm ms → ns.Pairwise (· ≤ ·) → ms.Pairwise (· ≤ ·) → ns = ms := fun p h1 h2 => List.Perm.eq_of_pairwise (fun a b _ _ h h' => Int.le_antisymm h h') h1 h2 p
/-- list.sort of ints, known -/
noncomputable def rSortK (l l' : List Nat) : RuleD where
  D := 900
  U := 9000
  code cd es := .builtin (idOf cd) ⟨[.ref (ad0 es)], []⟩
  objs _ es := [(ad0 es, oInts (tkI (ob0 es)) l (epOf (ob0 es)))]
  spec cd es := ifId 2166587332882953693805 cd (.leaf (fun _ => []) (fun ws => ⟨.res (.ok (.ret .none)), [oInts (fun i => ws.getD (i + 0) 0) l' (epOf (ob0 es) + 2)], []⟩))
theorem rSortK_ok (prog : Program) (w : World) (kt : Addr → Obj → Prop) {l l' : List Nat} (h1 : 0 < l.length) (h2 : l.length < 64) (hp : l.Perm l') (hs : l'.Pairwise (· ≤ ·)) : RuleD.Ok prog w kt (rSortK l l') := by
  intro cd es he
  refine cast_spec he ?_
  intro A R s hA hD hU H hw
  unfold rSortK ifId at hw ⊢
  dsimp only at hw ⊢
  split at hw
  · rename_i hid
    have hid := eqLit_is "list.sort" (by decide +kernel) hid
    rw [hid]
    have H : Start kt s.heap [(ad0 es, oInts (tkI (ob0 es)) l (epOf (ob0 es)))] := H
    generalize ad0 es = a at *
    generalize epOf (ob0 es) = n at *
    generalize tkI (ob0 es) = f at *
    refine codeAny_builtin PyProof.Rows.entry_list_sort ?_
    rw [Around.under_plainId (by decide +kernel) _]
    have hg : s.heap.get? a = some (seqObj "list" (mkI f 0 l).toArray n) := (H.own _ List.mem_cons_self).1
    refine PyProof.Rows.list_sort_tree hg (mkI_are f 0 l) (by rw [mkI_length]; exact h2) fun out ns' ho hpe hpw => ?_
    have en : ns' = l'.map Int.ofNat := by
      refine perm_sorted (hpe.trans (hp.map _)) hpw ?_
      rw [List.pairwise_map]
      exact hs.imp fun h => Int.ofNat_le.mpr h
    subst en
    have eo := mkI_of (lv := out.toList) (l := l') (by
      rw [are_vals ho]
      unfold iVals
      rw [List.map_map]
      rfl) 0 [] rfl
    refine hw (out.toList.map iTok) _ s.toks ?_
    have oth : ∀ b ob, b ≠ a → s.heap.get? b = some ob → (sortedHeap s.heap a (mkI f 0 l) out).get? b = some ob := fun b ob hb e => by
      unfold sortedHeap
      exact (Heap.get?_update_other _ _ (Ne.symm hb)).trans (Heap.get?_push_of_some _ (Heap.get?_push_of_some _ ((Heap.get?_update_other _ _ (Ne.symm hb)).trans e)))
    refine ends_turned H oth ?_
    unfold sortedHeap
    have g1 := get?_update_seq hg (fun _ => #[])
    have g2 := Heap.get?_push_of_some (seqObj "tuple" (mkI f 0 l).toArray 0) g1
    have g3 := Heap.get?_push_of_some (seqObj "list" #[] 0) g2
    have g4 := get?_update_seq g3 (fun _ => out)
    refine g4.trans ?_
    have hsz : out.size = l'.length := by
      have := ho.length
      rw [List.length_map] at this
      simpa using this
    have hl' : l'.length = l.length := hp.length_eq.symm
    have c1 : ((#[] : Array Value).size == (mkI f 0 l).toArray.size) = false := by
      rw [beq_eq_false_iff_ne]
      show 0 ≠ (mkI f 0 l).length
      rw [mkI_length]
      omega
    have c2 : (out.size == (#[] : Array Value).size) = false := by
      rw [beq_eq_false_iff_ne, hsz]
      show _ ≠ 0
      omega
    rw [c1, c2]
    have ea : out = (mkI (fun i => (out.toList.map iTok).getD (i + 0) 0) 0 l').toArray := by
      apply Array.ext'
      simpa using eo
    show some (seqObj "list" out (n + 1 + 1)) = some (oList _ _)
    unfold oList
    conv => lhs; rw [ea]
  · cases hw
/-- two lists of ints compared -/
theorem ne_code {prog : Program} {w : World} {kt : Addr → Obj → Prop} {A : Around} {R : Result → Shared → Prop} {s : Shared} {a b : Addr} {f g : Nat → Tok} {l m : List Nat} {n k : Nat} (st : Start kt s.heap [(a, oInts f l n), (b, oInts g m k)]) (hl : l.length = m.length)
    (h : R (.ok (.ret (.bool (!decide (l = m))))) s) : codeAny (model prog w) A (.builtin "list.__ne__" ⟨[.ref a, .ref b], []⟩) R s := by
  refine codeAny_builtin F.entry_list_ne ?_
  rw [Around.under_plainId (by decide +kernel) _]
  have h1 : s.heap.get? a = some { cls := .type "list", dict := none, data := .seq (Array.mk (mkI f 0 l)) n, slots := #[] } := (st.own _ List.mem_cons_self).1
  have h2 : s.heap.get? b = some { cls := .type "list", dict := none, data := .seq (Array.mk (mkI g 0 m)) k, slots := #[] } := (st.own _ (List.mem_cons_of_mem _ List.mem_cons_self)).1
  let e : Nat → Bool := fun j => decide (l.getD j 0 = m.getD j 0)
  have M := SeqAt.list_neAt a b (Array.mk (mkI f 0 l)) (Array.mk (mkI g 0 m)) n k none none #[] #[] (by show (mkI f 0 l).length = (mkI g 0 m).length; rw [mkI_length, mkI_length, hl]) e
  refine meets_use M prog w A R s ⟨h1, h2, fun j j1 j2 => ?_, ?_⟩
  · have j1' : j < l.length := by have : j < (mkI f 0 l).length := j1; rwa [mkI_length] at this
    have j2' : j < m.length := by omega
    have e1 : (Array.mk (mkI f 0 l))[j] = .int (Int.ofNat l[j]) (f j) := by
      have := mkI_get f 0 l j
      rw [List.getElem?_eq_getElem j1', List.getElem?_eq_getElem (by rw [mkI_length]; exact j1')] at this
      simp only [Option.map_some, Option.some.injEq, Nat.zero_add] at this
      exact this
    have e2 : (Array.mk (mkI g 0 m))[j] = .int (Int.ofNat m[j]) (g j) := by
      have := mkI_get g 0 m j
      rw [List.getElem?_eq_getElem j2', List.getElem?_eq_getElem (by rw [mkI_length]; exact j2')] at this
      simp only [Option.map_some, Option.some.injEq, Nat.zero_add] at this
      exact this
    rw [e1, e2]
    have ee : e j = (Int.ofNat l[j] == Int.ofNat m[j]) := by
      show decide (l.getD j 0 = m.getD j 0) = _
      rw [List.getD_eq_getElem?_getD, List.getD_eq_getElem?_getD, List.getElem?_eq_getElem j1', List.getElem?_eq_getElem j2', Option.getD_some, Option.getD_some]
      by_cases q : l[j] = m[j]
      · rw [q]; simp
      · rw [decide_eq_false q]
        symm
        rw [beq_eq_false_iff_ne]
        intro e; exact q (by injection e)
    rw [ee]
    exact (MeetsSeq.EqGives.int _ _ _ _).at _ _
  · have : ((List.range (Array.mk (mkI f 0 l)).size).all e) = decide (l = m) := by
      show ((List.range (mkI f 0 l).length).all e) = _
      rw [mkI_length]
      by_cases q : l = m
      · subst q
        rw [decide_eq_true rfl, List.all_eq_true]
        intro j _
        exact decide_eq_true rfl
      · rw [decide_eq_false q, List.all_eq_false]
        apply Classical.byContradiction
        intro hc
        apply q
        apply List.ext_getElem hl
        intro j j1 j2
        apply Classical.byContradiction
        intro hj
        apply hc
        refine ⟨j, List.mem_range.mpr j1, ?_⟩
        show ¬ decide (l.getD j 0 = m.getD j 0) = true
        rw [List.getD_eq_getElem?_getD, List.getD_eq_getElem?_getD, List.getElem?_eq_getElem j1, List.getElem?_eq_getElem j2]
        simpa using hj
    rw [this]
    exact h
/-- the answer known -/
noncomputable def rNeK (l m : List Nat) (r : Bool) : RuleD where
  D := 900
  U := 9000
  code cd es := .builtin (idOf cd) ⟨[.ref (adK es 0), .ref (adK es 1)], []⟩
  objs _ es := [(adK es 0, oInts (tkI (obK es 0)) l (epOf (obK es 0))), (adK es 1, oInts (tkI (obK es 1)) m (epOf (obK es 1)))]
  spec cd es := ifId 116512115458775698011089517 cd (.leaf (fun _ => []) (fun _ => ⟨.res (.ok (.ret (.bool r))), [oInts (tkI (obK es 0)) l (epOf (obK es 0)), oInts (tkI (obK es 1)) m (epOf (obK es 1))], []⟩))
theorem rNeK_ok (prog : Program) (w : World) (kt : Addr → Obj → Prop) {l m : List Nat} {r : Bool} (hl : l.length = m.length) (hr : (!decide (l = m)) = r) : RuleD.Ok prog w kt (rNeK l m r) := by
  intro cd es he
  refine cast_spec he ?_
  intro A R s hA hD hU H hw
  unfold rNeK ifId at hw ⊢
  dsimp only at hw ⊢
  split at hw
  · rename_i hid
    have hid := eqLit_is "list.__ne__" (by decide +kernel) hid
    rw [hid]
    refine ne_code H hl ?_
    rw [hr]
    exact hw [] s.heap s.toks (ends_same H)
  · cases hw
/-- the answer asked -/
noncomputable def rNeA (l m : List Nat) (r : Bool) : RuleD where
  D := 900
  U := 9000
  code cd es := .builtin (idOf cd) ⟨[.ref (adK es 0), .ref (adK es 1)], []⟩
  objs _ es := [(adK es 0, oInts (tkI (obK es 0)) l (epOf (obK es 0))), (adK es 1, oInts (tkI (obK es 1)) m (epOf (obK es 1)))]
  spec cd es := ifId 116512115458775698011089517 cd (.ask r
    (.leaf (fun _ => []) (fun _ => ⟨.res (.ok (.ret (.bool true))), [oInts (tkI (obK es 0)) l (epOf (obK es 0)), oInts (tkI (obK es 1)) m (epOf (obK es 1))], []⟩))
    (.leaf (fun _ => []) (fun _ => ⟨.res (.ok (.ret (.bool false))), [oInts (tkI (obK es 0)) l (epOf (obK es 0)), oInts (tkI (obK es 1)) m (epOf (obK es 1))], []⟩)))
theorem rNeA_ok (prog : Program) (w : World) (kt : Addr → Obj → Prop) {l m : List Nat} {r : Bool} (hl : l.length = m.length) (hr : (!decide (l = m)) = r) : RuleD.Ok prog w kt (rNeA l m r) := by
  intro cd es he
  refine cast_spec he ?_
  intro A R s hA hD hU H hw
  unfold rNeA ifId at hw ⊢
  dsimp only at hw ⊢
  split at hw
  · rename_i hid
    have hid := eqLit_is "list.__ne__" (by decide +kernel) hid
    rw [hid]
    refine ne_code H hl ?_
    rw [hr]
    cases r with
    | true => exact hw.1 rfl [] s.heap s.toks (ends_same H)
    | false => exact hw.2 rfl [] s.heap s.toks (ends_same H)
  · cases hw
end Mine

namespace Mine
open PySem PySem.Spec PySem.Calls PyProof.Rows PySem.W PySem.W.X

/-- the first object turned, all else as it stood -/
theorem ends_turnedL {kt : Addr → Obj → Prop} {h h' : Heap} {a : Addr} {o o' : Obj} {pre : List (Addr × Obj)} {e : End} (H : Start kt h ((a, o) :: pre)) (hk : ∀ b ob, b ≠ a → h.get? b = some ob → h'.get? b = some ob) (hn : h'.get? a = some o') :
    Ends kt (((a, o) :: pre).map (·.1)) h h' ⟨e, o' :: pre.map (·.2), []⟩ := by
  have y := H.own _ List.mem_cons_self
  have nd := H.nd
  simp only [List.map_cons, List.nodup_cons] at nd
  refine ⟨fun b ob eb => hk b ob ?_ (H.old b ob eb), by simp, fun k b ob e1 e2 => ?_, fun _ hx => (nomatch hx), List.nodup_nil, fun b ob eb hb => hk b ob (fun q => hb (by rw [q]; exact List.mem_cons_self)) eb⟩
  · rintro rfl; exact y.2 _ eb
  · cases k with
    | zero =>
      simp only [List.map_cons, List.getElem?_cons_zero, Option.some.injEq] at e1 e2
      subst e1; subst e2
      exact hn
    | succ k =>
      simp only [List.map_cons, List.getElem?_cons_succ, List.getElem?_map] at e1 e2
      cases q : pre[k]? with
      | none => rw [q] at e1; cases e1
      | some x =>
        rw [q] at e1 e2
        cases e1; cases e2
        have hx := List.mem_of_getElem? q
        exact hk _ _ (fun q => nd.1 (by rw [← q]; exact List.mem_map.mpr ⟨x, hx, rfl⟩)) (H.own x (List.mem_cons_of_mem _ hx)).1
noncomputable def sixW (W : Nat → Str) (f : Nat → Tok) : List WV := [(W 0, f 0), (W 1, f 1), (W 2, f 2), (W 3, f 3), (W 4, f 4), (W 5, f 5)]
/-- str.join of six texts, known -/
noncomputable def rJoinK (sep : Str) (W : Nat → Str) (z : Str) : RuleD where
  D := 900
  U := 9000
  code cd es := .builtin (idOf cd) ⟨[.str sep (argST cd 0), .ref (ad0 es)], []⟩
  objs _ es := [(ad0 es, oList ((sixW W (tkAt (ob0 es))).map wv) (epOf (ob0 es)))]
  spec cd es := ifId 8028352891401237876 cd (.leaf (fun _ => []) (fun ws => ⟨.res (.ok (.ret (.str z (ws.getD 0 0)))), [oList ((sixW W (tkAt (ob0 es))).map wv) (epOf (ob0 es))], []⟩))
theorem rJoinK_ok (prog : Program) (w : World) (kt : Addr → Obj → Prop) {sep : Str} {W : Nat → Str} {z : Str} (h : Builtin.Str.glued sep [W 0, W 1, W 2, W 3, W 4, W 5] = z) (hz : z.length ≤ 1000)
    (hl : Builtin.Str.tooLong ([W 0, W 1, W 2, W 3, W 4, W 5].toArray.foldl (· + ·.length + sep.length) 0) = false) : RuleD.Ok prog w kt (rJoinK sep W z) := by
  intro cd es he
  refine cast_spec he ?_
  intro A R s hA hD hU H hw
  unfold rJoinK ifId at hw ⊢
  dsimp only at hw ⊢
  split at hw
  · rename_i hid
    have hid := eqLit_is "str.join" (by decide +kernel) hid
    rw [hid]
    have H : Start kt s.heap [(ad0 es, oList ((sixW W (tkAt (ob0 es))).map wv) (epOf (ob0 es)))] := H
    generalize ad0 es = a at *
    generalize epOf (ob0 es) = n at *
    generalize tkAt (ob0 es) = f at *
    refine codeAny_builtin F.entry_str_join ?_
    rw [Around.under_plainId (by decide +kernel) _]
    have M := meets_str_join_list sep (argST cd 0) a (sixW W f) hl
    refine meets_use M prog w A R s ⟨⟨_, (H.own _ List.mem_cons_self).1, rfl, n, rfl⟩, ?_⟩
    show (Made.str (Builtin.Str.glued sep [W 0, W 1, W 2, W 3, W 4, W 5])).post _ _
    rw [h]
    refine ⟨?_, hw [s.toks] s.heap (s.toks + 1) (ends_same H)⟩
    rw [sizeLine_eq]; omega
  · cases hw
noncomputable def itO (l : Addr) (k : Nat) : Obj := { cls := .type "list_iterator", data := .fields (Array.mk [.ref l, .int (Int.ofNat k) 0]) }
noncomputable def refAt (o : Obj) (k : Nat) : Addr := refOf (fldAt o k)
/-- the next item of a list, known -/
noncomputable def rNextK (refs : List Value) (k : Nat) (v : Value) : RuleD where
  D := 900
  U := 9000
  code cd es := .builtin (idOf cd) ⟨[.ref (adK es 0)], []⟩
  objs _ es := [(adK es 0, itO (adK es 1) k), (adK es 1, oList refs (epOf (obK es 1)))]
  spec cd es := ifId 36058839055461744822429329989390181918337346850548333 cd (.leaf (fun _ => []) (fun _ => ⟨.res (.ok (.ret v)), [itO (adK es 1) (k + 1), oList refs (epOf (obK es 1))], []⟩))
theorem rNextK_ok (prog : Program) (w : World) (kt : Addr → Obj → Prop) {refs : List Value} {k : Nat} {v : Value} (hv : refs[k]? = some v) : RuleD.Ok prog w kt (rNextK refs k v) := by
  intro cd es he
  refine cast_spec he ?_
  intro A R s hA hD hU H hw
  unfold rNextK ifId at hw ⊢
  dsimp only at hw ⊢
  split at hw
  · rename_i hid
    have hid := eqLit_is "list_iterator.__next__" (by decide +kernel) hid
    rw [hid]
    have H : Start kt s.heap [(adK es 0, itO (adK es 1) k), (adK es 1, oList refs (epOf (obK es 1)))] := H
    generalize adK es 0 = it at *
    generalize adK es 1 = l at *
    generalize epOf (obK es 1) = n at *
    have ho : s.heap.get? it = some (itO l k) := (H.own _ List.mem_cons_self).1
    have hol : s.heap.get? l = some (oList refs n) := (H.own _ (List.mem_cons_of_mem _ List.mem_cons_self)).1
    refine codeAny_builtin entry_listiter_next ?_
    rw [Around.under_plainId (by decide +kernel) _]
    have hd : (itO l k).data = .fields #[.ref l, .int (Int.ofNat k) 0] := rfl
    show wpAny _ _ (field (.ref it) 0 >>= _) _ _ s
    refine wpAny_bind (wpAny_field ho hd (x := .ref l) rfl ?_)
    show wpAny _ _ (if (Value.ref l == Value.none) = true then _ else _) _ _ s
    rw [if_neg (show ¬ ((Value.ref l == Value.none) = true) from Bool.false_ne_true)]
    show wpAny _ _ (field (.ref it) 1 >>= _) _ _ s
    refine wpAny_bind (wpAny_field ho hd (x := .int (Int.ofNat k) 0) rfl ?_)
    show wpAny _ _ (seqItems? (.ref l) >>= _) _ _ s
    refine wpAny_bind (wpAny_seqItems hol (show (oList refs n).data = .seq (Array.mk refs) n from rfl) ?_)
    have hx : (Array.mk refs)[(Int.ofNat k).toNat]? = some v := by
      show (Array.mk refs)[k]? = some v
      simpa using hv
    simp only [hx]
    refine wpAny_bind (wpAny_setField ho hd (by simp) (wpAny_pure ?_))
    refine hw [] _ s.toks ?_
    refine ends_turnedL H (fun b ob hb e => (Heap.get?_update_other _ _ (Ne.symm hb)).trans e) ?_
    have g := Heap.get?_update_self (Obj.mapFields (·.setIfInBounds 1 (rawInt (Int.ofNat k + 1)))) ho (Obj.isFreed_of_fields (Obj.data_mapFields hd _))
    refine g.trans ?_
    rfl
  · cases hw
/-- list.__new__, called through its type -/
noncomputable def tyOf (v : Value) : String := match v with
  | .type n => n
  | _ => ""
noncomputable def rLNew : RuleD where
  D := 900
  U := 9000
  code cd _ := .call (.builtin (idOf cd)) ⟨[.type (tyOf (argV cd 0)), argV cd 1], []⟩
  objs _ _ := []
  spec cd _ := ifId 29827186395103491167075199597 cd (match S.eqLit 1970563693 (tyOf (argV cd 0)) with
    | true => .leaf witNews (fun ws => ⟨.res (.ok (.ret (.ref (ws.getD 0 0)))), [], [(ws.getD 0 0, oList [] 0)]⟩)
    | false => .stop 420)
theorem rLNew_ok (prog : Program) (w : World) (kt : Addr → Obj → Prop) : RuleD.Ok prog w kt rLNew := by
  intro cd es he A R s hA hD hU H hw
  unfold rLNew ifId at hw ⊢
  dsimp only at hw ⊢
  have he : es = [] := he
  subst he
  split at hw
  · rename_i hid
    have hid := eqLit_is "list.__new__" (by decide +kernel) hid
    split at hw
    · rename_i ht
      have ht := eqLit_is "list" (by decide +kernel) ht
      rw [hid, ht]
      refine codeAny_mono (code_list_new (E := fun e s' => R (.error e) s') (Q₁ := fun v s' => R (.ok (.ret v)) s') (argV cd 1) ?_) fun r s' hr => ?_
      · exact hw [s.heap.objs.size] _ s.toks (ends_made H (fun b ob e => Heap.get?_push_of_some _ e) (size_none _) (Heap.get?_push_size _ rfl))
      · cases r with
        | error e => exact hr
        | ok f =>
          cases f with
          | ret v => exact hr
          | _ => exact hr.elim
    · cases hw
  · cases hw
noncomputable def chR (T : Nat → Nat) (f : Nat → Tok) : Nat → Nat → List Value
  | _, 0 => []
  | i, k + 1 => .str (chS (T i)) (f i) :: chR T f (i + 1) k
theorem chR_length (T : Nat → Nat) (f : Nat → Tok) : ∀ (k i : Nat), (chR T f i k).length = k
  | 0, _ => rfl
  | k + 1, i => by simp [chR, chR_length T f k (i + 1)]
theorem chR_get (T : Nat → Nat) (f : Nat → Tok) : ∀ (k i j : Nat), (chR T f i k)[j]? = if j < k then some (.str (chS (T (i + j))) (f (i + j))) else none
  | 0, i, j => by simp [chR]
  | k + 1, i, 0 => by simp [chR]
  | k + 1, i, j + 1 => by
    simp only [chR, List.getElem?_cons_succ, chR_get T f k (i + 1) j]
    by_cases h : j < k
    · rw [if_pos h, if_pos (by omega), show i + 1 + j = i + (j + 1) from by omega]
    · rw [if_neg h, if_neg (by omega)]
/-- list.__init__ with a text, known -/
noncomputable def rLInit (x : Str) (T : Nat → Nat) (m : Nat) : RuleD where
  D := 900
  U := 9000
  code cd es := .builtin (idOf cd) ⟨[.ref (ad0 es), .str x (argST cd 1)], []⟩
  objs _ es := [(ad0 es, oList [] 0)]
  spec cd _ := ifId 7635756109259221455878126594669 cd (.leaf (fun _ => []) (fun ws => ⟨.res (.ok (.ret .none)), [oList (chR T (fun i => ws.getD (i + 1) 0) 0 m) (ws.getD 0 0)], []⟩))
theorem rLInit_ok (prog : Program) (w : World) (kt : Addr → Obj → Prop) {x : Str} {T : Nat → Nat} {m : Nat} (hm : x.cps.size = m) (hT : ∀ i < m, x.cps[i]? = some (T i)) (h1 : m ≤ 1000) : RuleD.Ok prog w kt (rLInit x T m) := by
  intro cd es he
  refine cast_spec he ?_
  intro A R s hA hD hU H hw
  unfold rLInit ifId at hw ⊢
  dsimp only at hw ⊢
  split at hw
  · rename_i hid
    have hid := eqLit_is "list.__init__" (by decide +kernel) hid
    rw [hid]
    have H : Start kt s.heap [(ad0 es, oList [] 0)] := H
    generalize ad0 es = a at *
    refine codeAny_builtin F.entry_list_init ?_
    rw [Around.under_plainId (by decide +kernel) _]
    refine wpAny_list_init_str hA x (argST cd 1) a (H.own _ List.mem_cons_self).1 (fun h' tk acc' c' hk hS hacc => ?_) (by rw [hm, sizeLine_eq]; omega)
    refine hw (c' :: acc'.toList.map sTok) h' tk (ends_turned H hk ?_)
    rw [hS]
    congr 1
    unfold oList
    have e : acc' = Array.mk (chR T (fun i => (c' :: acc'.toList.map sTok).getD (i + 1) 0) 0 m) := by
      apply Array.ext'
      apply List.ext_getElem?
      intro j
      rw [chR_get]
      have hs : acc'.size = m := by rw [hacc.1, hm]
      by_cases hj : j < m
      · rw [if_pos hj]
        have hj' : j < acc'.size := by omega
        obtain ⟨c, u, hc, hv⟩ := hacc.2 j acc'[j] (by rw [Array.getElem?_eq_getElem hj'])
        have e1 : acc'.toList[j]? = some acc'[j] := by rw [Array.getElem?_toList, Array.getElem?_eq_getElem hj']
        rw [e1, hv]
        rw [hT j hj] at hc
        cases hc
        have e2 : (c' :: acc'.toList.map sTok).getD (0 + j + 1) 0 = u := by
          rw [List.getD_eq_getElem?_getD, Nat.zero_add, List.getElem?_cons_succ, List.getElem?_map, e1, hv]
          rfl
        rw [Nat.zero_add] at e2 ⊢
        rw [e2]
        rfl
      · rw [if_neg hj]
        rw [Array.getElem?_toList]
        exact Array.getElem?_eq_none (by omega)
    show ({ cls := _, dict := _, data := .seq acc' c', slots := _ } : Obj) = _
    conv => lhs; rw [e]
    rfl
  · cases hw
end Mine

namespace Mine
open PySem PySem.Spec PySem.Calls PyProof.Rows PySem.W PySem.W.X

noncomputable def enO (it : Addr) (k : Nat) : Obj := { cls := .type "enumerate", data := .fields (Array.mk [.none, .bool false, .ref it, .int (Int.ofNat k) 0, .none, .none]) }
theorem ends_made2 {kt : Addr → Obj → Prop} {h h' : Heap} {pre : List (Addr × Obj)} {o o2 : Obj} {a a2 : Addr} {e : End} (H : Start kt h pre) (hk : ∀ b ob, h.get? b = some ob → h'.get? b = some ob) (ha : h.get? a = none) (hn : h'.get? a = some o)
    (ha2 : h.get? a2 = none) (hn2 : h'.get? a2 = some o2) (hne : a ≠ a2) :
    Ends kt (pre.map (·.1)) h h' ⟨e, pre.map (·.2), [(a, o), (a2, o2)]⟩ := by
  have E1 := ends_made (e := e) H hk ha hn
  have E2 := ends_made (e := e) H hk ha2 hn2
  refine ⟨E1.old, E1.len, E1.own, fun x hx => ?_, by simp [hne], E1.keep⟩
  rcases List.mem_cons.mp hx with rfl | hx
  · exact E1.news _ List.mem_cons_self
  · exact E2.news x hx
/-- enumerate over a list -/
noncomputable def rENew : RuleD where
  D := 900
  U := 9000
  code cd es := .builtin (idOf cd) ⟨[.type (tyOf (argV cd 0)), .ref (ad0 es)], []⟩
  objs _ es := [(ad0 es, ob0 es)]
  spec cd es := ifId 32795338265258401048814659337623159861094 cd (ifList (ob0 es) (match S.eqLit 1890026345452306591590 (tyOf (argV cd 0)) with
    | true => .leaf witNews (fun ws => ⟨.res (.ok (.ret (.ref (ws.getD 0 0)))), [ob0 es], [(ws.getD 0 0, enO (ws.getD 1 0) 0), (ws.getD 1 0, itO (ad0 es) 0)]⟩)
    | false => .stop 421))
theorem rENew_ok (prog : Program) (w : World) (kt : Addr → Obj → Prop) : RuleD.Ok prog w kt rENew := by
  intro cd es he A R s hA hD hU H hw
  unfold rENew ifId ifList at hw ⊢
  dsimp only at hw ⊢
  split at hw
  · rename_i hid
    have hid := eqLit_is "enumerate.__new__" (by decide +kernel) hid
    split at hw
    · rename_i h1
      split at hw
      · rename_i h2
        have ho := list_is (t := "list") (by decide +kernel) h1 h2
        split at hw
        · rename_i ht
          have ht := eqLit_is "enumerate" (by decide +kernel) ht
          rw [hid, ht]
          have hes : es = [(ad0 es, ob0 es)] := he
          have st := H
          rw [hes] at st
          generalize ob0 es = o at *
          generalize ad0 es = l at *
          refine codeAny_builtin F.entry_enumerate_new ?_
          rw [Around.under_plainId (by decide +kernel) _]
          have M := meets_enumerate_newL l (Array.mk (itemsOf o)) (epOf o) none #[]
          refine meets_use M prog w A R s ⟨?_, ?_⟩
          · rw [← ho]; exact (st.own _ List.mem_cons_self).1
          · have z := hw [s.heap.objs.size + 1, s.heap.objs.size] ((s.heap.push (itO l 0)).push (enO s.heap.objs.size 0)) s.toks
            have es2 : (s.heap.push (itO l 0)).objs.size = s.heap.objs.size + 1 := Heap.size_push ..
            have goal := z (by
              rw [hes]
              refine ends_made2 st (fun b ob e => Heap.get?_push_of_some _ (Heap.get?_push_of_some _ e)) ?_ ?_ (size_none _) ?_ ?_
              · show s.heap.get? (s.heap.objs.size + 1) = none
                cases q : s.heap.get? (s.heap.objs.size + 1) with
                | none => rfl
                | some o => exact absurd (Heap.lt_size q) (Nat.not_lt.mpr (Nat.le_succ _))
              · have g := Heap.get?_push_size (s.heap.push (itO l 0)) (o := enO s.heap.objs.size 0) rfl
                rw [es2] at g
                exact g
              · exact Heap.get?_push_of_some _ (Heap.get?_push_size _ rfl)
              · show s.heap.objs.size + 1 ≠ s.heap.objs.size
                omega)
            have e3 : (s.heap.push { cls := .type "list_iterator", data := .fields #[.ref l, .int 0 0] }).objs.size = s.heap.objs.size + 1 := Heap.size_push ..
            rw [e3]
            exact goal
        · cases hw
      · cases hw
    · cases hw
  · cases hw
theorem ifList_ok {o : Obj} {sp : Spec} (h1 : plainB 1970563693 o = true) (h2 : seqB o = true) : ifList o sp = sp := by
  unfold ifList
  rw [h1, h2]
noncomputable def slO (a b c : Value) : Obj := { cls := .type "slice", data := .fields (Array.mk [a, b, c]) }
/-- a slice of a list -/
theorem slice_code {prog : Program} {w : World} {kt : Addr → Obj → Prop} {A : Around} {R : Result → Shared → Prop} {s : Shared} {l sl : Addr} {items res : List Value} {n : Nat} {vl vu : Value} {lo hi : Option Int} (st : Start kt s.heap [(l, oList items n), (sl, slO vl vu .none)])
    (pl : IsPart vl lo) (pu : IsPart vu hi) (hs : slicePick (Array.mk items) lo hi none = Array.mk res) (hn : items.length ≤ 1000)
    (h : R (.ok (.ret (.ref s.heap.objs.size))) { s with heap := s.heap.push (oList res 0) }) : codeAny (model prog w) A (.builtin "list.__getitem__" ⟨[.ref l, .ref sl], []⟩) R s := by
  have ho : s.heap.get? l = some (oList items n) := (st.own _ List.mem_cons_self).1
  have hos : s.heap.get? sl = some (slO vl vu .none) := (st.own _ (List.mem_cons_of_mem _ List.mem_cons_self)).1
  have hTs : s.TypeIs (.ref sl) "slice" := ⟨_, hos, rfl⟩
  have hds : (slO vl vu .none).data = .fields #[vl, vu, .none] := rfl
  refine codeAny_builtin entry_list_getitem ?_
  rw [Around.under_plainId (by decide +kernel) _]
  show wpAny _ _ (Builtin.List.listSubscript? (.ref sl) >>= _) _ _ s
  refine wpAny_bind ?_
  unfold Builtin.List.listSubscript?
  refine wpAny_bind (wpAny_specialOf hTs slice_no_index ?_)
  simp only [Option.isNone_none, if_true]
  refine wpAny_pure ?_
  show wpAny _ _ (typeOf (.ref sl) >>= _) _ _ s
  refine wpAny_bind (wpAny_typeOf hTs ?_)
  rw [if_neg (by decide)]
  rw [listSliceParts_eq]
  refine wpAny_bind (wpAny_bind (wpAny_field hos hds (x := .none) rfl (wpAny_bind (wpAny_listPart .none ?_))))
  rw [if_neg (show ¬ ((rawPart none == rawInt 0) = true) from Bool.false_ne_true)]
  refine wpAny_bind (wpAny_field hos hds (x := vl) rfl (wpAny_bind (wpAny_listPart pl ?_)))
  refine wpAny_bind (wpAny_field hos hds (x := vu) rfl (wpAny_bind (wpAny_listPart pu (wpAny_pure ?_))))
  refine wpAny_bind (m := Builtin.List.listItems (.ref l)) ?_
  unfold Builtin.List.listItems
  refine wpAny_bind (wpAny_seqItems ho (show (oList items n).data = .seq (Array.mk items) n from rfl) (wpAny_pure ?_))
  refine wpAny_bind (wpAny_of_eq (sliceIndices_raw lo hi none (Array.mk items).size (by simp)) ?_)
  have hle := slicePick_size_le (Array.mk items) lo hi none
  refine wpAny_bind (wpAny_newObj_type (wpAny_pure ?_) (Nat.le_trans hle (by rw [sizeLine_eq]; show items.length ≤ _; omega)))
  show R (.ok (.ret (.ref s.heap.objs.size))) { s with heap := s.heap.push { cls := .type "list", data := .seq (slicePick (Array.mk items) lo hi none) } }
  rw [hs]
  exact h
/-- a slice from the start, known -/
noncomputable def rSlTo (items : List Value) (k : Nat) (res : List Value) : RuleD where
  D := 900
  U := 9000
  code cd es := .builtin (idOf cd) ⟨[.ref (adK es 0), .ref (adK es 1)], []⟩
  objs _ es := [(adK es 0, oList items (epOf (obK es 0))), (adK es 1, slO .none (.int (Int.ofNat k) (iTok (fldAt (obK es 1) 1))) .none)]
  spec cd es := ifId 128106587276438692081757506308484131437 cd (.leaf witNews (fun ws => ⟨.res (.ok (.ret (.ref (ws.getD 0 0)))), [oList items (epOf (obK es 0)), slO .none (.int (Int.ofNat k) (iTok (fldAt (obK es 1) 1))) .none], [(ws.getD 0 0, oList res 0)]⟩))
theorem rSlTo_ok (prog : Program) (w : World) (kt : Addr → Obj → Prop) {items res : List Value} {k : Nat} (hn : items.length ≤ 1000) (hr : items.take k = res) : RuleD.Ok prog w kt (rSlTo items k res) := by
  intro cd es he
  refine cast_spec he ?_
  intro A R s hA hD hU H hw
  unfold rSlTo ifId at hw ⊢
  dsimp only at hw ⊢
  split at hw
  · rename_i hid
    have hid := eqLit_is "list.__getitem__" (by decide +kernel) hid
    try rw [hid]
    refine slice_code H .none (.int _ _) (res := res) ?_ hn ?_
    · have := slicePick_upto' (Array.mk items) k
      rw [← hr]
      exact this
    · exact hw [s.heap.objs.size] _ s.toks (ends_made H (fun b ob e => Heap.get?_push_of_some _ e) (size_none _) (Heap.get?_push_size _ rfl))
  · cases hw
/-- a slice to the end, known -/
noncomputable def rSlFrom (k : Nat) : RuleD where
  D := 900
  U := 9000
  code cd es := .builtin (idOf cd) ⟨[.ref (adK es 0), .ref (adK es 1)], []⟩
  objs _ es := [(adK es 0, oList (itemsOf (obK es 0)) (epOf (obK es 0))), (adK es 1, slO (.int (Int.ofNat k) (iTok (fldAt (obK es 1) 0))) .none .none)]
  spec cd es := ifId 128106587276438692081757506308484131437 cd (match Nat.beq (itemsOf (obK es 0)).length 6 with
    | true => .leaf witNews (fun ws => ⟨.res (.ok (.ret (.ref (ws.getD 0 0)))), [oList (itemsOf (obK es 0)) (epOf (obK es 0)), slO (.int (Int.ofNat k) (iTok (fldAt (obK es 1) 0))) .none .none], [(ws.getD 0 0, oList [] 0)]⟩)
    | false => .stop 422)
theorem rSlFrom_ok (prog : Program) (w : World) (kt : Addr → Obj → Prop) {k : Nat} (hk : 6 ≤ k) : RuleD.Ok prog w kt (rSlFrom k) := by
  intro cd es he
  refine cast_spec he ?_
  intro A R s hA hD hU H hw
  unfold rSlFrom ifId at hw ⊢
  dsimp only at hw ⊢
  split at hw
  · rename_i hid
    have hid := eqLit_is "list.__getitem__" (by decide +kernel) hid
    try rw [hid]
    split at hw
    · rename_i hq
      have hq := Nat.eq_of_beq_eq_true hq
      refine slice_code H (.int _ _) .none (res := []) ?_ (by omega) ?_
      · have := slicePick_from' (Array.mk (itemsOf (obK es 0))) k
        have e : (Array.mk (itemsOf (obK es 0))).toList.drop k = [] := List.drop_eq_nil_of_le (by show (itemsOf (obK es 0)).length ≤ k; omega)
        rw [e] at this
        exact this
      · exact hw [s.heap.objs.size] _ s.toks (ends_made H (fun b ob e => Heap.get?_push_of_some _ e) (size_none _) (Heap.get?_push_size _ rfl))
    · cases hw
  · cases hw
/-- the int at the place j is taken out -/
noncomputable def rPopI (l : List Nat) (j m : Nat) (l' : List Nat) : RuleD where
  D := 900
  U := 9000
  code cd es := .builtin (idOf cd) ⟨[.ref (ad0 es), .int (Int.ofNat j) (argT cd 1)], []⟩
  objs _ es := [(ad0 es, oInts (tkI (ob0 es)) l (epOf (ob0 es)))]
  spec cd es := ifId 8174157772325415533 cd (.leaf (fun _ => []) (fun ws => ⟨.res (.ok (.ret (.int (Int.ofNat m) (ws.getD 0 0)))), [oInts (fun i => ws.getD (i + 1) 0) l' (epOf (ob0 es) + 1)], []⟩))
theorem rPopI_ok (prog : Program) (w : World) (kt : Addr → Obj → Prop) {l : List Nat} {j m : Nat} {l' : List Nat} (h1 : l.length ≤ 1000) (h2 : l[j]? = some m) (h3 : l.eraseIdx j = l') : RuleD.Ok prog w kt (rPopI l j m l') := by
  intro cd es he
  refine cast_spec he ?_
  intro A R s hA hD hU H hw
  unfold rPopI ifId at hw ⊢
  dsimp only at hw ⊢
  split at hw
  · rename_i hid
    have hid := eqLit_is "list.pop" (by decide +kernel) hid
    try rw [hid]
    have H : Start kt s.heap [(ad0 es, oInts (tkI (ob0 es)) l (epOf (ob0 es)))] := H
    generalize ad0 es = a at *
    generalize tkI (ob0 es) = f at *
    generalize epOf (ob0 es) = n at *
    generalize argT cd 1 = u at *
    have ef : ((mkI f 0 l).eraseIdx j).map iVal = iVals l' := by
      rw [map_erase, mkI_vals, ← h3]
      unfold iVals
      rw [map_erase]
    have e := mkI_of ef 1 [f (0 + j)] rfl
    refine pop_code (o := oInts f l n) (y := .int (Int.ofNat m) (f (0 + j))) (q := (mkI f 0 l).eraseIdx j) H rfl (by
      show (mkI f 0 l).length ≤ 1000
      rw [mkI_length]; exact h1) (by
      show (mkI f 0 l)[j]? = _
      rw [mkI_get, h2]; rfl) rfl fun E => ?_
    refine hw ([f (0 + j)] ++ ((mkI f 0 l).eraseIdx j).map iTok) _ s.toks ?_
    rw [e] at E
    exact E
  · cases hw
/-- len of a list, known -/
noncomputable def rLenK (items : List Value) (n : Nat) : RuleD where
  D := 900
  U := 9000
  code cd es := .builtin (idOf cd) ⟨[.ref (ad0 es)], []⟩
  objs _ es := [(ad0 es, oList items (epOf (ob0 es)))]
  spec cd es := ifId 7300717 cd (.leaf (fun _ => []) (fun ws => ⟨.res (.ok (.ret (.int (Int.ofNat n) (ws.getD 0 0)))), [oList items (epOf (ob0 es))], []⟩))
theorem rLenK_ok (prog : Program) (w : World) (kt : Addr → Obj → Prop) {items : List Value} {n : Nat} (h1 : items.length = n) (h : n ≤ 1000) : RuleD.Ok prog w kt (rLenK items n) := by
  intro cd es he
  refine cast_spec he ?_
  have z := rLen_ok prog w kt (.builtin (idOf cd) ⟨[.ref (ad0 es)], []⟩) [(ad0 es, oList items (epOf (ob0 es)))] rfl
  refine z.mono fun V hw => ?_
  unfold rLenK ifId at hw
  unfold rLen ifId
  dsimp only at hw ⊢
  show wpS V (match S.eqLit 7300717 (idOf cd) with | true => _ | false => _)
  split at hw
  · rename_i hid
    try rw [hid]
    have e1 : plainB 1970563693 (oList items (epOf (ob0 es))) = true := by
      show S.eqLit 1970563693 "list" = true
      decide +kernel
    show wpS V (ifList (oList items (epOf (ob0 es))) (.need (items.length ≤ 1000) (.leaf (fun _ => []) fun ws => ⟨.res (.ok (.ret (.int (Int.ofNat items.length) (ws.getD 0 0)))), [oList items (epOf (ob0 es))], []⟩)))
    rw [ifList_ok e1 rfl]
    refine ⟨by omega, ?_⟩
    rw [h1]
    exact hw
  · cases hw
noncomputable def hdV (l : List Value) : Value := match l with
  | x :: _ => x
  | [] => .none
noncomputable def tlV (l : List Value) : List Value := match l with
  | _ :: r => r
  | [] => []
/-- a list with an item, compared with an empty one -/
noncomputable def rNeE : RuleD where
  D := 900
  U := 9000
  code cd es := .builtin (idOf cd) ⟨[.ref (adK es 0), .ref (adK es 1)], []⟩
  objs _ es := [(adK es 0, oList (hdV (itemsOf (obK es 0)) :: tlV (itemsOf (obK es 0))) (epOf (obK es 0))), (adK es 1, oList [] (epOf (obK es 1)))]
  spec cd es := ifId 116512115458775698011089517 cd (.leaf (fun _ => []) (fun _ => ⟨.res (.ok (.ret (.bool true))), [oList (hdV (itemsOf (obK es 0)) :: tlV (itemsOf (obK es 0))) (epOf (obK es 0)), oList [] (epOf (obK es 1))], []⟩))
theorem rNeE_ok (prog : Program) (w : World) (kt : Addr → Obj → Prop) : RuleD.Ok prog w kt rNeE := by
  intro cd es he
  refine cast_spec he ?_
  intro A R s hA hD hU H hw
  unfold rNeE ifId at hw ⊢
  dsimp only at hw ⊢
  split at hw
  · rename_i hid
    have hid := eqLit_is "list.__ne__" (by decide +kernel) hid
    try rw [hid]
    have H : Start kt s.heap [(adK es 0, oList (hdV (itemsOf (obK es 0)) :: tlV (itemsOf (obK es 0))) (epOf (obK es 0))), (adK es 1, oList [] (epOf (obK es 1)))] := H
    generalize hdV (itemsOf (obK es 0)) = x at *
    generalize tlV (itemsOf (obK es 0)) = l at *
    refine codeAny_builtin F.entry_list_ne ?_
    rw [Around.under_plainId (by decide +kernel) _]
    have M := SeqAt.list_ne_lengthsAt (adK es 0) (adK es 1) (Array.mk (x :: l)) (Array.mk []) (epOf (obK es 0)) (epOf (obK es 1)) none none #[] #[] (by
      rw [bne_iff_ne]
      show l.length + 1 ≠ 0
      omega)
    refine meets_use M prog w A R s ⟨(H.own _ List.mem_cons_self).1, (H.own _ (List.mem_cons_of_mem _ List.mem_cons_self)).1, ?_⟩
    exact hw [] s.heap s.toks (ends_same H)
  · cases hw
end Mine

namespace Mine
open PySem PySem.Spec PySem.Calls PyProof.Rows PySem.W PySem.W.X

noncomputable def retE (s : Stmt) : Expr := match s with
  | .Return v _ => match v with
    | some e => e
    | none => default
  | _ => default
noncomputable def cmpLft (e : Expr) : Expr := match e with
  | .Compare l _ _ _ => l
  | _ => default
noncomputable def lcScope (e : Expr) : Scope := match e with
  | .ListComp _ _ sc _ => sc
  | _ => default
/-- the comprehension of _law_rises (270) or _law_peaks (275) -/
noncomputable def riE (P : Params) (a : Nat) : Expr := cmpLft (retE (nth (stmtsOf (fdA P a).body) 0))
noncomputable def riEnv (P : Params) (a : Nat) (q : Str) (fr F : Addr) : Env := { scope := lcScope (riE P a), locals := fr, globals := 3, cells := [], qual := q, func := none, code := (fdA P a).code, frame := some F, builtins := 0 }
structure RX where
  it : Addr
  acc : Addr
  fr : Addr
  F : Addr
  lst : Addr
  h : Nat → Int
  t : Nat → Tok
noncomputable def qRi : Nat → Str
  | 270 => (sl [95, 108, 97, 119, 95, 114, 105, 115, 101, 115, 46, 60, 108, 111, 99, 97, 108, 115, 62, 46])
  | _ => (sl [95, 108, 97, 119, 95, 112, 101, 97, 107, 115, 46, 60, 108, 111, 99, 97, 108, 115, 62, 46])
noncomputable def cRi (P : Params) (a : Nat) (q : Str) (g : RX) : Code := .compLoop (riE P a) 0 (.ref g.it) (.ref g.acc) (riEnv P a q g.fr g.F)
noncomputable def oFr3 (g : RX) (x y z : Value) : Obj := dictO [⟨g.h 0, .str (sl [111, 110, 101]) (g.t 0), x⟩, ⟨g.h 1, .str (sl [116, 119, 111]) (g.t 1), y⟩, ⟨g.h 2, .str (sl [116, 104, 114, 101, 101]) (g.t 2), z⟩] 3
noncomputable def in3 (n t : Nat) : Value := .int (Int.ofNat n) t
noncomputable def onesF (f : Nat → Tok) : Nat → Nat → List Value
  | _, 0 => []
  | i, c + 1 => in3 1 (f i) :: onesF f (i + 1) c
/-- a turn: the triple (a, b, c), the comparisons p < q < r of it -/
noncomputable def riSpec (P : Params) (f : Nat) (qq : Str) (g : RX) (c0 : Nat) (fo : Nat → Tok) (k : Nat) (refs : List Value) (n : Nat) (a b c ta tb tc : Nat) (p q r : Nat) : Spec :=
  .ask (decide (Int.ofNat p < Int.ofNat q))
    (.ask (decide (Int.ofNat q < Int.ofNat r))
      (.need ((onesF fo 0 c0).length ≤ 1000) (.leaf (fun L => (itemsOf (osK L.os 1)).map iTok) (fun ws => ⟨.again (cRi P f qq g), [itO g.lst (k + 1), oList (onesF (fun i => ws.getD i 0) 0 (c0 + 1)) (c0 + 1), oFr3 g (in3 a ta) (in3 b tb) (in3 c tc), oList refs n, oTup [in3 a ta, in3 b tb, in3 c tc]], []⟩)))
      (.leaf (fun _ => []) (fun _ => ⟨.again (cRi P f qq g), [itO g.lst (k + 1), oList (onesF fo 0 c0) c0, oFr3 g (in3 a ta) (in3 b tb) (in3 c tc), oList refs n, oTup [in3 a ta, in3 b tb, in3 c tc]], []⟩)))
    (.leaf (fun _ => []) (fun _ => ⟨.again (cRi P f qq g), [itO g.lst (k + 1), oList (onesF fo 0 c0) c0, oFr3 g (in3 a ta) (in3 b tb) (in3 c tc), oList refs n, oTup [in3 a ta, in3 b tb, in3 c tc]], []⟩))
noncomputable def riPre (g : RX) (c0 : Nat) (fo : Nat → Tok) (k : Nat) (refs : List Value) (n : Nat) (x y z u v o : Nat) (ak a b c ta tb tc : Nat) : List (Addr × Obj) :=
  [(g.it, itO g.lst k), (g.acc, oList (onesF fo 0 c0) c0), (g.fr, oFr3 g (in3 x u) (in3 y v) (in3 z o)), (g.lst, oList refs n), (ak, oTup [in3 a ta, in3 b tb, in3 c tc])]
noncomputable def rulesR (refs : List Value) (k : Nat) (ak : Addr) : List RuleD := [rNextK refs k (.ref ak), rLt, rApp]
theorem rulesR_ok (prog : Program) (w : World) (kt : Addr → Obj → Prop) {refs : List Value} {k : Nat} {ak : Addr} (h : refs[k]? = some (.ref ak)) : ∀ r ∈ rulesR refs k ak, RuleD.Ok prog w kt r := by
  intro r hr
  simp only [rulesR, List.mem_cons, List.not_mem_nil, or_false] at hr
  rcases hr with rfl | rfl | rfl
  · exact rNextK_ok _ _ _ h
  · exact rLt_ok _ _ _
  · exact rApp_ok _ _ _
noncomputable def refsF (r : Nat → Addr) : Nat → Nat → List Value
  | _, 0 => []
  | i, k + 1 => .ref (r i) :: refsF r (i + 1) k
noncomputable def tgRT : Tg := (gl (gf (gl (gf (gl g0 [0, 2, 5, 1, 1, 2]) (gl g0 [2])) [3, 0, 4, 0]) (gl g0 [2])) [0, 1, 0, 1, 3, 2, 0, 3, 1, 5, 5, 5, 0, 5, 0, 6, 6, 0, 6, 0, 6, 6, 5, 6, 6, 6, 0, 6, 0, 6, 6, 5, 6, 6, 6, 0, 6, 0, 6, 6, 5, 6, 6, 6, 0, 6, 0, 6, 6, 5, 6, 6, 8, 3, 3, 3, 3, 3, 3, 3, 3, 0, 4, 0])
noncomputable def tgRE : Tg := (gl g0 [0, 1, 0, 1, 0, 1, 1, 4, 1, 1, 6])
noncomputable abbrev ckRT (P : Params) (b1 b2 : Bool) (g : RX) (c0 : Nat) (fo : Nat → Tok) (k : Nat) (refs : List Value) (n x y z u v o ak a b c ta tb tc N tk : Nat) : Chk :=
  chkOf P b1 b2 (rulesR refs k ak) (cRi P 270 (sl [95, 108, 97, 119, 95, 114, 105, 115, 101, 115, 46, 60, 108, 111, 99, 97, 108, 115, 62, 46]) g) 320 3700 (riPre g c0 fo k refs n x y z u v o ak a b c ta tb tc) N tk tgRT (riSpec P 270 (sl [95, 108, 97, 119, 95, 114, 105, 115, 101, 115, 46, 60, 108, 111, 99, 97, 108, 115, 62, 46]) g c0 fo k refs n a b c ta tb tc a b c)
noncomputable abbrev ckPT2 (P : Params) (b1 b2 : Bool) (g : RX) (c0 : Nat) (fo : Nat → Tok) (k : Nat) (refs : List Value) (n x y z u v o ak a b c ta tb tc N tk : Nat) : Chk :=
  chkOf P b1 b2 (rulesR refs k ak) (cRi P 275 (sl [95, 108, 97, 119, 95, 112, 101, 97, 107, 115, 46, 60, 108, 111, 99, 97, 108, 115, 62, 46]) g) 320 3700 (riPre g c0 fo k refs n x y z u v o ak a b c ta tb tc) N tk tgRT (riSpec P 275 (sl [95, 108, 97, 119, 95, 112, 101, 97, 107, 115, 46, 60, 108, 111, 99, 97, 108, 115, 62, 46]) g c0 fo k refs n a b c ta tb tc a c b)
noncomputable def itX : Obj := { cls := .type "list_iterator", data := .fields (Array.mk [.none, .int 20 0]) }
noncomputable def reSpec (g : RX) (c0 : Nat) (fo : Nat → Tok) (r : Nat → Addr) (n : Nat) (x y z u v o : Nat) : Spec :=
  .leaf (fun _ => []) (fun _ => ⟨.res (.ok .next), [itX, oList (onesF fo 0 c0) c0, oFr3 g (in3 x u) (in3 y v) (in3 z o), oList (refsF r 0 20) n], []⟩)
noncomputable abbrev ckRE (P : Params) (b1 b2 : Bool) (f : Nat) (q : Str) (g : RX) (c0 : Nat) (fo : Nat → Tok) (r : Nat → Addr) (n x y z u v o N tk : Nat) : Chk :=
  chkOf P b1 b2 [] (cRi P f q g) 320 3700 [(g.it, itO g.lst 20), (g.acc, oList (onesF fo 0 c0) c0), (g.fr, oFr3 g (in3 x u) (in3 y v) (in3 z o)), (g.lst, oList (refsF r 0 20) n)] N tk tgRE (reSpec g c0 fo r n x y z u v o)
set_option maxHeartbeats 0
theorem rt_chk0 (P : Params) (b1 b2 : Bool) (g : RX) (fo : Nat → Tok) (k : Nat) (refs : List Value) (n x y z u v o ak a b c ta tb tc N tk : Nat) : (ckRT P b1 b2 g 0 fo k refs n x y z u v o ak a b c ta tb tc N tk).lhs = (ckRT P b1 b2 g 0 fo k refs n x y z u v o ak a b c ta tb tc N tk).rhs := by
  cases b1 <;> kernel_rfl
theorem pt2_chk0 (P : Params) (b1 b2 : Bool) (g : RX) (fo : Nat → Tok) (k : Nat) (refs : List Value) (n x y z u v o ak a b c ta tb tc N tk : Nat) : (ckPT2 P b1 b2 g 0 fo k refs n x y z u v o ak a b c ta tb tc N tk).lhs = (ckPT2 P b1 b2 g 0 fo k refs n x y z u v o ak a b c ta tb tc N tk).rhs := by
  cases b1 <;> kernel_rfl
theorem rt_chk1 (P : Params) (b1 b2 : Bool) (g : RX) (fo : Nat → Tok) (k : Nat) (refs : List Value) (n x y z u v o ak a b c ta tb tc N tk : Nat) : (ckRT P b1 b2 g 1 fo k refs n x y z u v o ak a b c ta tb tc N tk).lhs = (ckRT P b1 b2 g 1 fo k refs n x y z u v o ak a b c ta tb tc N tk).rhs := by
  cases b1 <;> kernel_rfl
theorem pt2_chk1 (P : Params) (b1 b2 : Bool) (g : RX) (fo : Nat → Tok) (k : Nat) (refs : List Value) (n x y z u v o ak a b c ta tb tc N tk : Nat) : (ckPT2 P b1 b2 g 1 fo k refs n x y z u v o ak a b c ta tb tc N tk).lhs = (ckPT2 P b1 b2 g 1 fo k refs n x y z u v o ak a b c ta tb tc N tk).rhs := by
  cases b1 <;> kernel_rfl
theorem rt_chk2 (P : Params) (b1 b2 : Bool) (g : RX) (fo : Nat → Tok) (k : Nat) (refs : List Value) (n x y z u v o ak a b c ta tb tc N tk : Nat) : (ckRT P b1 b2 g 2 fo k refs n x y z u v o ak a b c ta tb tc N tk).lhs = (ckRT P b1 b2 g 2 fo k refs n x y z u v o ak a b c ta tb tc N tk).rhs := by
  cases b1 <;> kernel_rfl
theorem pt2_chk2 (P : Params) (b1 b2 : Bool) (g : RX) (fo : Nat → Tok) (k : Nat) (refs : List Value) (n x y z u v o ak a b c ta tb tc N tk : Nat) : (ckPT2 P b1 b2 g 2 fo k refs n x y z u v o ak a b c ta tb tc N tk).lhs = (ckPT2 P b1 b2 g 2 fo k refs n x y z u v o ak a b c ta tb tc N tk).rhs := by
  cases b1 <;> kernel_rfl
theorem rt_chk3 (P : Params) (b1 b2 : Bool) (g : RX) (fo : Nat → Tok) (k : Nat) (refs : List Value) (n x y z u v o ak a b c ta tb tc N tk : Nat) : (ckRT P b1 b2 g 3 fo k refs n x y z u v o ak a b c ta tb tc N tk).lhs = (ckRT P b1 b2 g 3 fo k refs n x y z u v o ak a b c ta tb tc N tk).rhs := by
  cases b1 <;> kernel_rfl
theorem pt2_chk3 (P : Params) (b1 b2 : Bool) (g : RX) (fo : Nat → Tok) (k : Nat) (refs : List Value) (n x y z u v o ak a b c ta tb tc N tk : Nat) : (ckPT2 P b1 b2 g 3 fo k refs n x y z u v o ak a b c ta tb tc N tk).lhs = (ckPT2 P b1 b2 g 3 fo k refs n x y z u v o ak a b c ta tb tc N tk).rhs := by
  cases b1 <;> kernel_rfl
theorem rt_chk4 (P : Params) (b1 b2 : Bool) (g : RX) (fo : Nat → Tok) (k : Nat) (refs : List Value) (n x y z u v o ak a b c ta tb tc N tk : Nat) : (ckRT P b1 b2 g 4 fo k refs n x y z u v o ak a b c ta tb tc N tk).lhs = (ckRT P b1 b2 g 4 fo k refs n x y z u v o ak a b c ta tb tc N tk).rhs := by
  cases b1 <;> kernel_rfl
theorem pt2_chk4 (P : Params) (b1 b2 : Bool) (g : RX) (fo : Nat → Tok) (k : Nat) (refs : List Value) (n x y z u v o ak a b c ta tb tc N tk : Nat) : (ckPT2 P b1 b2 g 4 fo k refs n x y z u v o ak a b c ta tb tc N tk).lhs = (ckPT2 P b1 b2 g 4 fo k refs n x y z u v o ak a b c ta tb tc N tk).rhs := by
  cases b1 <;> kernel_rfl
theorem rt_chk5 (P : Params) (b1 b2 : Bool) (g : RX) (fo : Nat → Tok) (k : Nat) (refs : List Value) (n x y z u v o ak a b c ta tb tc N tk : Nat) : (ckRT P b1 b2 g 5 fo k refs n x y z u v o ak a b c ta tb tc N tk).lhs = (ckRT P b1 b2 g 5 fo k refs n x y z u v o ak a b c ta tb tc N tk).rhs := by
  cases b1 <;> kernel_rfl
theorem pt2_chk5 (P : Params) (b1 b2 : Bool) (g : RX) (fo : Nat → Tok) (k : Nat) (refs : List Value) (n x y z u v o ak a b c ta tb tc N tk : Nat) : (ckPT2 P b1 b2 g 5 fo k refs n x y z u v o ak a b c ta tb tc N tk).lhs = (ckPT2 P b1 b2 g 5 fo k refs n x y z u v o ak a b c ta tb tc N tk).rhs := by
  cases b1 <;> kernel_rfl
theorem rt_chk6 (P : Params) (b1 b2 : Bool) (g : RX) (fo : Nat → Tok) (k : Nat) (refs : List Value) (n x y z u v o ak a b c ta tb tc N tk : Nat) : (ckRT P b1 b2 g 6 fo k refs n x y z u v o ak a b c ta tb tc N tk).lhs = (ckRT P b1 b2 g 6 fo k refs n x y z u v o ak a b c ta tb tc N tk).rhs := by
  cases b1 <;> kernel_rfl
theorem pt2_chk6 (P : Params) (b1 b2 : Bool) (g : RX) (fo : Nat → Tok) (k : Nat) (refs : List Value) (n x y z u v o ak a b c ta tb tc N tk : Nat) : (ckPT2 P b1 b2 g 6 fo k refs n x y z u v o ak a b c ta tb tc N tk).lhs = (ckPT2 P b1 b2 g 6 fo k refs n x y z u v o ak a b c ta tb tc N tk).rhs := by
  cases b1 <;> kernel_rfl
theorem rt_chk7 (P : Params) (b1 b2 : Bool) (g : RX) (fo : Nat → Tok) (k : Nat) (refs : List Value) (n x y z u v o ak a b c ta tb tc N tk : Nat) : (ckRT P b1 b2 g 7 fo k refs n x y z u v o ak a b c ta tb tc N tk).lhs = (ckRT P b1 b2 g 7 fo k refs n x y z u v o ak a b c ta tb tc N tk).rhs := by
  cases b1 <;> kernel_rfl
theorem pt2_chk7 (P : Params) (b1 b2 : Bool) (g : RX) (fo : Nat → Tok) (k : Nat) (refs : List Value) (n x y z u v o ak a b c ta tb tc N tk : Nat) : (ckPT2 P b1 b2 g 7 fo k refs n x y z u v o ak a b c ta tb tc N tk).lhs = (ckPT2 P b1 b2 g 7 fo k refs n x y z u v o ak a b c ta tb tc N tk).rhs := by
  cases b1 <;> kernel_rfl
theorem rt_chk8 (P : Params) (b1 b2 : Bool) (g : RX) (fo : Nat → Tok) (k : Nat) (refs : List Value) (n x y z u v o ak a b c ta tb tc N tk : Nat) : (ckRT P b1 b2 g 8 fo k refs n x y z u v o ak a b c ta tb tc N tk).lhs = (ckRT P b1 b2 g 8 fo k refs n x y z u v o ak a b c ta tb tc N tk).rhs := by
  cases b1 <;> kernel_rfl
theorem pt2_chk8 (P : Params) (b1 b2 : Bool) (g : RX) (fo : Nat → Tok) (k : Nat) (refs : List Value) (n x y z u v o ak a b c ta tb tc N tk : Nat) : (ckPT2 P b1 b2 g 8 fo k refs n x y z u v o ak a b c ta tb tc N tk).lhs = (ckPT2 P b1 b2 g 8 fo k refs n x y z u v o ak a b c ta tb tc N tk).rhs := by
  cases b1 <;> kernel_rfl
theorem rt_chk9 (P : Params) (b1 b2 : Bool) (g : RX) (fo : Nat → Tok) (k : Nat) (refs : List Value) (n x y z u v o ak a b c ta tb tc N tk : Nat) : (ckRT P b1 b2 g 9 fo k refs n x y z u v o ak a b c ta tb tc N tk).lhs = (ckRT P b1 b2 g 9 fo k refs n x y z u v o ak a b c ta tb tc N tk).rhs := by
  cases b1 <;> kernel_rfl
theorem pt2_chk9 (P : Params) (b1 b2 : Bool) (g : RX) (fo : Nat → Tok) (k : Nat) (refs : List Value) (n x y z u v o ak a b c ta tb tc N tk : Nat) : (ckPT2 P b1 b2 g 9 fo k refs n x y z u v o ak a b c ta tb tc N tk).lhs = (ckPT2 P b1 b2 g 9 fo k refs n x y z u v o ak a b c ta tb tc N tk).rhs := by
  cases b1 <;> kernel_rfl
theorem rt_chk10 (P : Params) (b1 b2 : Bool) (g : RX) (fo : Nat → Tok) (k : Nat) (refs : List Value) (n x y z u v o ak a b c ta tb tc N tk : Nat) : (ckRT P b1 b2 g 10 fo k refs n x y z u v o ak a b c ta tb tc N tk).lhs = (ckRT P b1 b2 g 10 fo k refs n x y z u v o ak a b c ta tb tc N tk).rhs := by
  cases b1 <;> kernel_rfl
theorem pt2_chk10 (P : Params) (b1 b2 : Bool) (g : RX) (fo : Nat → Tok) (k : Nat) (refs : List Value) (n x y z u v o ak a b c ta tb tc N tk : Nat) : (ckPT2 P b1 b2 g 10 fo k refs n x y z u v o ak a b c ta tb tc N tk).lhs = (ckPT2 P b1 b2 g 10 fo k refs n x y z u v o ak a b c ta tb tc N tk).rhs := by
  cases b1 <;> kernel_rfl
theorem rt_chk11 (P : Params) (b1 b2 : Bool) (g : RX) (fo : Nat → Tok) (k : Nat) (refs : List Value) (n x y z u v o ak a b c ta tb tc N tk : Nat) : (ckRT P b1 b2 g 11 fo k refs n x y z u v o ak a b c ta tb tc N tk).lhs = (ckRT P b1 b2 g 11 fo k refs n x y z u v o ak a b c ta tb tc N tk).rhs := by
  cases b1 <;> kernel_rfl
theorem pt2_chk11 (P : Params) (b1 b2 : Bool) (g : RX) (fo : Nat → Tok) (k : Nat) (refs : List Value) (n x y z u v o ak a b c ta tb tc N tk : Nat) : (ckPT2 P b1 b2 g 11 fo k refs n x y z u v o ak a b c ta tb tc N tk).lhs = (ckPT2 P b1 b2 g 11 fo k refs n x y z u v o ak a b c ta tb tc N tk).rhs := by
  cases b1 <;> kernel_rfl
theorem rt_chk12 (P : Params) (b1 b2 : Bool) (g : RX) (fo : Nat → Tok) (k : Nat) (refs : List Value) (n x y z u v o ak a b c ta tb tc N tk : Nat) : (ckRT P b1 b2 g 12 fo k refs n x y z u v o ak a b c ta tb tc N tk).lhs = (ckRT P b1 b2 g 12 fo k refs n x y z u v o ak a b c ta tb tc N tk).rhs := by
  cases b1 <;> kernel_rfl
theorem pt2_chk12 (P : Params) (b1 b2 : Bool) (g : RX) (fo : Nat → Tok) (k : Nat) (refs : List Value) (n x y z u v o ak a b c ta tb tc N tk : Nat) : (ckPT2 P b1 b2 g 12 fo k refs n x y z u v o ak a b c ta tb tc N tk).lhs = (ckPT2 P b1 b2 g 12 fo k refs n x y z u v o ak a b c ta tb tc N tk).rhs := by
  cases b1 <;> kernel_rfl
theorem rt_chk13 (P : Params) (b1 b2 : Bool) (g : RX) (fo : Nat → Tok) (k : Nat) (refs : List Value) (n x y z u v o ak a b c ta tb tc N tk : Nat) : (ckRT P b1 b2 g 13 fo k refs n x y z u v o ak a b c ta tb tc N tk).lhs = (ckRT P b1 b2 g 13 fo k refs n x y z u v o ak a b c ta tb tc N tk).rhs := by
  cases b1 <;> kernel_rfl
theorem pt2_chk13 (P : Params) (b1 b2 : Bool) (g : RX) (fo : Nat → Tok) (k : Nat) (refs : List Value) (n x y z u v o ak a b c ta tb tc N tk : Nat) : (ckPT2 P b1 b2 g 13 fo k refs n x y z u v o ak a b c ta tb tc N tk).lhs = (ckPT2 P b1 b2 g 13 fo k refs n x y z u v o ak a b c ta tb tc N tk).rhs := by
  cases b1 <;> kernel_rfl
theorem rt_chk14 (P : Params) (b1 b2 : Bool) (g : RX) (fo : Nat → Tok) (k : Nat) (refs : List Value) (n x y z u v o ak a b c ta tb tc N tk : Nat) : (ckRT P b1 b2 g 14 fo k refs n x y z u v o ak a b c ta tb tc N tk).lhs = (ckRT P b1 b2 g 14 fo k refs n x y z u v o ak a b c ta tb tc N tk).rhs := by
  cases b1 <;> kernel_rfl
theorem pt2_chk14 (P : Params) (b1 b2 : Bool) (g : RX) (fo : Nat → Tok) (k : Nat) (refs : List Value) (n x y z u v o ak a b c ta tb tc N tk : Nat) : (ckPT2 P b1 b2 g 14 fo k refs n x y z u v o ak a b c ta tb tc N tk).lhs = (ckPT2 P b1 b2 g 14 fo k refs n x y z u v o ak a b c ta tb tc N tk).rhs := by
  cases b1 <;> kernel_rfl
theorem rt_chk15 (P : Params) (b1 b2 : Bool) (g : RX) (fo : Nat → Tok) (k : Nat) (refs : List Value) (n x y z u v o ak a b c ta tb tc N tk : Nat) : (ckRT P b1 b2 g 15 fo k refs n x y z u v o ak a b c ta tb tc N tk).lhs = (ckRT P b1 b2 g 15 fo k refs n x y z u v o ak a b c ta tb tc N tk).rhs := by
  cases b1 <;> kernel_rfl
theorem pt2_chk15 (P : Params) (b1 b2 : Bool) (g : RX) (fo : Nat → Tok) (k : Nat) (refs : List Value) (n x y z u v o ak a b c ta tb tc N tk : Nat) : (ckPT2 P b1 b2 g 15 fo k refs n x y z u v o ak a b c ta tb tc N tk).lhs = (ckPT2 P b1 b2 g 15 fo k refs n x y z u v o ak a b c ta tb tc N tk).rhs := by
  cases b1 <;> kernel_rfl
theorem rt_chk16 (P : Params) (b1 b2 : Bool) (g : RX) (fo : Nat → Tok) (k : Nat) (refs : List Value) (n x y z u v o ak a b c ta tb tc N tk : Nat) : (ckRT P b1 b2 g 16 fo k refs n x y z u v o ak a b c ta tb tc N tk).lhs = (ckRT P b1 b2 g 16 fo k refs n x y z u v o ak a b c ta tb tc N tk).rhs := by
  cases b1 <;> kernel_rfl
theorem pt2_chk16 (P : Params) (b1 b2 : Bool) (g : RX) (fo : Nat → Tok) (k : Nat) (refs : List Value) (n x y z u v o ak a b c ta tb tc N tk : Nat) : (ckPT2 P b1 b2 g 16 fo k refs n x y z u v o ak a b c ta tb tc N tk).lhs = (ckPT2 P b1 b2 g 16 fo k refs n x y z u v o ak a b c ta tb tc N tk).rhs := by
  cases b1 <;> kernel_rfl
theorem rt_chk17 (P : Params) (b1 b2 : Bool) (g : RX) (fo : Nat → Tok) (k : Nat) (refs : List Value) (n x y z u v o ak a b c ta tb tc N tk : Nat) : (ckRT P b1 b2 g 17 fo k refs n x y z u v o ak a b c ta tb tc N tk).lhs = (ckRT P b1 b2 g 17 fo k refs n x y z u v o ak a b c ta tb tc N tk).rhs := by
  cases b1 <;> kernel_rfl
theorem pt2_chk17 (P : Params) (b1 b2 : Bool) (g : RX) (fo : Nat → Tok) (k : Nat) (refs : List Value) (n x y z u v o ak a b c ta tb tc N tk : Nat) : (ckPT2 P b1 b2 g 17 fo k refs n x y z u v o ak a b c ta tb tc N tk).lhs = (ckPT2 P b1 b2 g 17 fo k refs n x y z u v o ak a b c ta tb tc N tk).rhs := by
  cases b1 <;> kernel_rfl
theorem rt_chk18 (P : Params) (b1 b2 : Bool) (g : RX) (fo : Nat → Tok) (k : Nat) (refs : List Value) (n x y z u v o ak a b c ta tb tc N tk : Nat) : (ckRT P b1 b2 g 18 fo k refs n x y z u v o ak a b c ta tb tc N tk).lhs = (ckRT P b1 b2 g 18 fo k refs n x y z u v o ak a b c ta tb tc N tk).rhs := by
  cases b1 <;> kernel_rfl
theorem pt2_chk18 (P : Params) (b1 b2 : Bool) (g : RX) (fo : Nat → Tok) (k : Nat) (refs : List Value) (n x y z u v o ak a b c ta tb tc N tk : Nat) : (ckPT2 P b1 b2 g 18 fo k refs n x y z u v o ak a b c ta tb tc N tk).lhs = (ckPT2 P b1 b2 g 18 fo k refs n x y z u v o ak a b c ta tb tc N tk).rhs := by
  cases b1 <;> kernel_rfl
theorem rt_chk19 (P : Params) (b1 b2 : Bool) (g : RX) (fo : Nat → Tok) (k : Nat) (refs : List Value) (n x y z u v o ak a b c ta tb tc N tk : Nat) : (ckRT P b1 b2 g 19 fo k refs n x y z u v o ak a b c ta tb tc N tk).lhs = (ckRT P b1 b2 g 19 fo k refs n x y z u v o ak a b c ta tb tc N tk).rhs := by
  cases b1 <;> kernel_rfl
theorem pt2_chk19 (P : Params) (b1 b2 : Bool) (g : RX) (fo : Nat → Tok) (k : Nat) (refs : List Value) (n x y z u v o ak a b c ta tb tc N tk : Nat) : (ckPT2 P b1 b2 g 19 fo k refs n x y z u v o ak a b c ta tb tc N tk).lhs = (ckPT2 P b1 b2 g 19 fo k refs n x y z u v o ak a b c ta tb tc N tk).rhs := by
  cases b1 <;> kernel_rfl
theorem re_chk (P : Params) (b1 b2 : Bool) (g : RX) (c0 : Nat) (fo : Nat → Tok) (r : Nat → Addr) (n x y z u v o N tk : Nat) : (ckRE P b1 b2 270 (sl [95, 108, 97, 119, 95, 114, 105, 115, 101, 115, 46, 60, 108, 111, 99, 97, 108, 115, 62, 46]) g c0 fo r n x y z u v o N tk).lhs = (ckRE P b1 b2 270 (sl [95, 108, 97, 119, 95, 114, 105, 115, 101, 115, 46, 60, 108, 111, 99, 97, 108, 115, 62, 46]) g c0 fo r n x y z u v o N tk).rhs := by
  cases b1 <;> kernel_rfl
theorem pe_chk (P : Params) (b1 b2 : Bool) (g : RX) (c0 : Nat) (fo : Nat → Tok) (r : Nat → Addr) (n x y z u v o N tk : Nat) : (ckRE P b1 b2 275 (sl [95, 108, 97, 119, 95, 112, 101, 97, 107, 115, 46, 60, 108, 111, 99, 97, 108, 115, 62, 46]) g c0 fo r n x y z u v o N tk).lhs = (ckRE P b1 b2 275 (sl [95, 108, 97, 119, 95, 112, 101, 97, 107, 115, 46, 60, 108, 111, 99, 97, 108, 115, 62, 46]) g c0 fo r n x y z u v o N tk).rhs := by
  cases b1 <;> kernel_rfl
end Mine

namespace Mine
open PySem PySem.Spec PySem.Calls PyProof.Rows PySem.W PySem.W.X

noncomputable def Leaf.app (L : Leaf) (ext : List Obj) : Leaf := ⟨L.e, L.os ++ ext, L.ns⟩
noncomputable def Spec.app (ext : List Obj) : Spec → Spec
  | .stop n => .stop n
  | .leaf wit F => .leaf wit fun ws => (F ws).app ext
  | .ask b x y => .ask b (x.app ext) (y.app ext)
  | .need p x => .need p (x.app ext)
noncomputable def ktX (kt : Addr → Obj → Prop) (X : List (Addr × Obj)) : Addr → Obj → Prop := fun b o => kt b o ∨ (b, o) ∈ X
section
variable {kt : Addr → Obj → Prop} {X ext pre : List (Addr × Obj)} {h₀ h : Heap} {L : Leaf}
theorem start_in (hx : ∀ x ∈ ext, x ∈ X) (hX : ∀ x ∈ X, ∀ o', ¬ kt x.1 o') (hn : (ext.map (·.1)).Nodup) (H : Start (ktX kt X) h pre) : Start kt h (pre ++ ext) := by
  refine ⟨fun b o q => H.old b o (.inl q), fun p hp => ?_, ?_⟩
  · rcases List.mem_append.mp hp with hp | hp
    · exact ⟨(H.own p hp).1, fun o' q => (H.own p hp).2 o' (.inl q)⟩
    · exact ⟨H.old _ _ (.inr (hx p hp)), hX p (hx p hp)⟩
  · rw [List.map_append, List.nodup_append]
    refine ⟨H.nd, hn, fun a ha b hb e => ?_⟩
    subst e
    obtain ⟨p, hp, ep⟩ := List.mem_map.mp ha
    obtain ⟨x, hxx, ex⟩ := List.mem_map.mp hb
    refine (H.own p hp).2 x.2 (.inr ?_)
    rw [ep, ← ex]
    exact hx x hxx
theorem start_out (hX : ∀ x ∈ X, ∀ o', ¬ kt x.1 o') (H : Start kt h (pre ++ X)) : Start (ktX kt X) h pre := by
  have nd := H.nd
  rw [List.map_append, List.nodup_append] at nd
  refine ⟨fun b o q => ?_, fun p hp => ⟨(H.own p (List.mem_append_left _ hp)).1, fun o' q => ?_⟩, nd.1⟩
  · rcases q with q | q
    · exact H.old b o q
    · exact (H.own _ (List.mem_append_right _ q)).1
  · rcases q with q | q
    · exact (H.own p (List.mem_append_left _ hp)).2 o' q
    · exact nd.2.2 p.1 (List.mem_map.mpr ⟨p, hp, rfl⟩) p.1 (List.mem_map.mpr ⟨_, q, rfl⟩) rfl
theorem ext_at {x : Addr × Obj} (hx : x ∈ ext) (len : L.os.length = pre.length) (own : ∀ (k : Nat) (a : Addr) (o : Obj), ((pre ++ ext).map (·.1))[k]? = some a → (L.app (ext.map (·.2))).os[k]? = some o → h.get? a = some o) : h.get? x.1 = some x.2 := by
  obtain ⟨k, hk, ek⟩ := List.getElem_of_mem hx
  refine own (pre.length + k) x.1 x.2 ?_ ?_
  · rw [List.getElem?_map, List.getElem?_append_right (by omega), show pre.length + k - pre.length = k from by omega, List.getElem?_eq_getElem hk, ek]
    rfl
  · show (L.os ++ ext.map (·.2))[pre.length + k]? = _
    rw [List.getElem?_append_right (by omega), show pre.length + k - L.os.length = k from by omega, List.getElem?_map, List.getElem?_eq_getElem hk, ek]
    rfl
theorem ends_in (hx : ∀ x ∈ ext, x ∈ X) (H : Start (ktX kt X) h₀ pre) (E : Ends kt ((pre ++ ext).map (·.1)) h₀ h (L.app (ext.map (·.2)))) : Ends (ktX kt X) (pre.map (·.1)) h₀ h L := by
  have len : L.os.length = pre.length := by
    have := E.len
    simp only [Leaf.app, List.length_append, List.length_map] at this
    omega
  have keepX : ∀ b o, h₀.get? b = some o → b ∉ pre.map (·.1) → h.get? b = some o := fun b o e hb => by
    by_cases q : b ∈ ext.map (·.1)
    · obtain ⟨x, hxx, ex⟩ := List.mem_map.mp q
      have := H.old _ _ (.inr (hx x hxx) : ktX kt X x.1 x.2)
      rw [ex, e] at this
      cases this
      rw [← ex]
      exact ext_at hxx len E.own
    · refine E.keep b o e ?_
      rw [List.map_append, List.mem_append]
      exact fun z => z.elim hb q
  have notX : ∀ b o, ktX kt X b o → b ∉ pre.map (·.1) := fun b o q hb => by
    obtain ⟨p, hp, ep⟩ := List.mem_map.mp hb
    subst ep
    exact (H.own p hp).2 o q
  refine ⟨fun b o q => keepX b o (H.old b o q) (notX b o q), by rw [len, List.length_map], fun k a o e1 e2 => ?_, fun x hxx => ?_, E.nd, keepX⟩
  · have hk : k < (pre.map (·.1)).length := (List.getElem?_eq_some_iff.mp e1).1
    have hk2 : k < L.os.length := (List.getElem?_eq_some_iff.mp e2).1
    refine E.own k a o ?_ ?_
    · rw [List.map_append, List.getElem?_append_left hk]; exact e1
    · show (L.os ++ ext.map (·.2))[k]? = _
      rw [List.getElem?_append_left hk2]; exact e2
  · obtain ⟨y1, y2, y3⟩ := E.news x hxx
    refine ⟨y1, y2, fun o' q => ?_⟩
    have := H.old _ _ q
    rw [y2] at this
    cases this
theorem ends_out (E : Ends (ktX kt X) (pre.map (·.1)) h₀ h L) : Ends kt ((pre ++ X).map (·.1)) h₀ h (L.app (X.map (·.2))) := by
  have len : L.os.length = pre.length := by have := E.len; rw [List.length_map] at this; exact this
  refine ⟨fun b o q => E.old b o (.inl q), ?_, fun k a o e1 e2 => ?_, fun x hx => ?_, E.nd, fun b o e hb => E.keep b o e fun q => hb ?_⟩
  · simp only [Leaf.app, List.length_append, List.length_map, len]
  · by_cases hk : k < pre.length
    · refine E.own k a o ?_ ?_
      · rw [List.map_append, List.getElem?_append_left (by rw [List.length_map]; exact hk)] at e1; exact e1
      · have e2 : (L.os ++ X.map (·.2))[k]? = some o := e2
        rw [List.getElem?_append_left (by omega)] at e2; exact e2
    · rw [List.map_append, List.getElem?_append_right (by rw [List.length_map]; omega), List.length_map, List.getElem?_map] at e1
      have e2 : (L.os ++ X.map (·.2))[k]? = some o := e2
      rw [List.getElem?_append_right (by omega), List.getElem?_map, len] at e2
      cases q : X[k - pre.length]? with
      | none => rw [q] at e1; cases e1
      | some x =>
        rw [q] at e1 e2
        cases e1; cases e2
        exact E.old _ _ (.inr (List.mem_of_getElem? q))
  · obtain ⟨y1, y2, y3⟩ := E.news x hx
    exact ⟨y1, y2, fun o' q => y3 o' (.inl q)⟩
  · rw [List.map_append, List.mem_append]; exact .inl q
end
theorem wpS_in {V V' : BV} {X ext pre : List (Addr × Obj)} (hx : ∀ x ∈ ext, x ∈ X) (e1 : V'.kt = ktX V.kt X) (e2 : V.pre = (pre ++ ext).map (·.1)) (e3 : V'.pre = pre.map (·.1)) (e4 : V'.h₀ = V.h₀) (H : Start (ktX V.kt X) V.h₀ pre) (hp : ∀ e s, V'.post e s → V.post e s) (hf : ∀ h tk, V'.fin h tk = V.fin h tk) : ∀ sp, wpS V' sp → wpS V (sp.app (ext.map (·.2)))
  | .stop _, hw => hw
  | .leaf _ F, hw => fun ws h tk E => by
    rw [← hf]
    refine hp _ _ (hw ws h tk ?_)
    rw [e1, e3, e4]
    rw [e2] at E
    exact ends_in hx H E
  | .ask b x y, hw => ⟨fun q => wpS_in hx e1 e2 e3 e4 H hp hf x (hw.1 q), fun q => wpS_in hx e1 e2 e3 e4 H hp hf y (hw.2 q)⟩
  | .need p x, hw => ⟨hw.1, wpS_in hx e1 e2 e3 e4 H hp hf x hw.2⟩
theorem wpS_out {V V' : BV} {X pre : List (Addr × Obj)} (e1 : V'.kt = ktX V.kt X) (e2 : V.pre = (pre ++ X).map (·.1)) (e3 : V'.pre = pre.map (·.1)) (e4 : V'.h₀ = V.h₀) (hp : ∀ e s, V.post e s → V'.post e s) (hf : ∀ h tk, V'.fin h tk = V.fin h tk) : ∀ sp, wpS V (sp.app (X.map (·.2))) → wpS V' sp
  | .stop _, hw => hw
  | .leaf _ F, hw => fun ws h tk E => by
    rw [hf]
    refine hp _ _ (hw ws h tk ?_)
    rw [e1, e3, e4] at E
    rw [e2]
    exact ends_out E
  | .ask b x y, hw => ⟨fun q => wpS_out e1 e2 e3 e4 hp hf x (hw.1 q), fun q => wpS_out e1 e2 e3 e4 hp hf y (hw.2 q)⟩
  | .need p x, hw => ⟨hw.1, wpS_out e1 e2 e3 e4 hp hf x hw.2⟩
/-- known objects may be reckoned among the old ones -/
theorem CodeSpec.absorb {prog : Program} {w : World} {kt : Addr → Obj → Prop} {D U : Nat} {c : Code} {X ext pre : List (Addr × Obj)} {sp : Spec} (hx : ∀ x ∈ ext, x ∈ X) (hX : ∀ x ∈ X, ∀ o', ¬ kt x.1 o') (hn : (ext.map (·.1)).Nodup)
    (C : CodeSpec prog w kt D U c (pre ++ ext) (sp.app (ext.map (·.2)))) : CodeSpec prog w (ktX kt X) D U c pre sp := by
  intro A R s hA hD hU H hw
  exact C A R s hA hD hU (start_in hx hX hn H) (wpS_in (V := ⟨prog, w, kt, (pre ++ ext).map (fun x : Addr × Obj => x.1), s.heap, A, R, s.gens, s.drawn, s.os⟩) (V' := ⟨prog, w, ktX kt X, pre.map (fun x : Addr × Obj => x.1), s.heap, A, R, s.gens, s.drawn, s.os⟩) hx rfl rfl rfl rfl H (fun _ _ q => q) (fun _ _ => rfl) sp hw)
theorem CodeSpec.unabsorb {prog : Program} {w : World} {kt : Addr → Obj → Prop} {D U : Nat} {c : Code} {X pre : List (Addr × Obj)} {sp : Spec}
    (C : (∀ x ∈ X, ∀ o', ¬ kt x.1 o') → (X.map (·.1)).Nodup → CodeSpec prog w (ktX kt X) D U c pre sp) : CodeSpec prog w kt D U c (pre ++ X) (sp.app (X.map (·.2))) := by
  intro A R s hA hD hU H hw
  have hX : ∀ x ∈ X, ∀ o', ¬ kt x.1 o' := fun x hx o' => (H.own x (List.mem_append_right _ hx)).2 o'
  have hn : (X.map (·.1)).Nodup := by
    have := H.nd
    rw [List.map_append, List.nodup_append] at this
    exact this.2.1
  exact C hX hn A R s hA hD hU (start_out hX H) (wpS_out (V := ⟨prog, w, kt, (pre ++ X).map (fun x : Addr × Obj => x.1), s.heap, A, R, s.gens, s.drawn, s.os⟩) (V' := ⟨prog, w, ktX kt X, pre.map (fun x : Addr × Obj => x.1), s.heap, A, R, s.gens, s.drawn, s.os⟩) rfl rfl rfl rfl (fun _ _ q => q) (fun _ _ => rfl) sp hw)
end Mine

namespace Mine
open PySem PySem.Spec PySem.Calls PyProof.Rows PySem.W PySem.W.X

noncomputable def fR (pk : Bool) : Nat := match pk with
  | false => 270
  | true => 275
noncomputable def qR (pk : Bool) : Str := match pk with
  | false => (sl [95, 108, 97, 119, 95, 114, 105, 115, 101, 115, 46, 60, 108, 111, 99, 97, 108, 115, 62, 46])
  | true => (sl [95, 108, 97, 119, 95, 112, 101, 97, 107, 115, 46, 60, 108, 111, 99, 97, 108, 115, 62, 46])
noncomputable def pR (pk : Bool) (a b c : Nat) : Nat × Nat × Nat := match pk with
  | false => (a, b, c)
  | true => (a, c, b)
noncomputable def hitR (pk : Bool) (a b c : Nat) : Bool := decide ((pR pk a b c).1 < (pR pk a b c).2.1) && decide ((pR pk a b c).2.1 < (pR pk a b c).2.2)
noncomputable def riSpec3 (P : Params) (f : Nat) (qq : Str) (g : RX) (c0 : Nat) (fo : Nat → Tok) (k : Nat) (a b c ta tb tc : Nat) (p q r : Nat) : Spec :=
  .ask (decide (Int.ofNat p < Int.ofNat q))
    (.ask (decide (Int.ofNat q < Int.ofNat r))
      (.need ((onesF fo 0 c0).length ≤ 1000) (.leaf (fun L => (itemsOf (osK L.os 1)).map iTok) (fun ws => ⟨.again (cRi P f qq g), [itO g.lst (k + 1), oList (onesF (fun i => ws.getD i 0) 0 (c0 + 1)) (c0 + 1), oFr3 g (in3 a ta) (in3 b tb) (in3 c tc)], []⟩)))
      (.leaf (fun _ => []) (fun _ => ⟨.again (cRi P f qq g), [itO g.lst (k + 1), oList (onesF fo 0 c0) c0, oFr3 g (in3 a ta) (in3 b tb) (in3 c tc)], []⟩)))
    (.leaf (fun _ => []) (fun _ => ⟨.again (cRi P f qq g), [itO g.lst (k + 1), oList (onesF fo 0 c0) c0, oFr3 g (in3 a ta) (in3 b tb) (in3 c tc)], []⟩))
theorem rt_turn (w : World) (g : RX) (fo : Nat → Tok) (k : Nat) (refs : List Value) (n x y z u v o ak a b c ta tb tc : Nat) (h : refs[k]? = some (.ref ak)) : ∀ c0 : Nat, c0 ≤ 19 →
    CodeSpec pw0 w (ko w.params) 320 3700 (cRi w.params (fR false) (qR false) g) (riPre g c0 fo k refs n x y z u v o ak a b c ta tb tc) (riSpec w.params (fR false) (qR false) g c0 fo k refs n a b c ta tb tc a b c)
  | 0, _ => spec_of w (rulesR_ok _ _ _ h) fun b1 b2 N tk => rt_chk0 w.params b1 b2 g fo k refs n x y z u v o ak a b c ta tb tc N tk
  | 1, _ => spec_of w (rulesR_ok _ _ _ h) fun b1 b2 N tk => rt_chk1 w.params b1 b2 g fo k refs n x y z u v o ak a b c ta tb tc N tk
  | 2, _ => spec_of w (rulesR_ok _ _ _ h) fun b1 b2 N tk => rt_chk2 w.params b1 b2 g fo k refs n x y z u v o ak a b c ta tb tc N tk
  | 3, _ => spec_of w (rulesR_ok _ _ _ h) fun b1 b2 N tk => rt_chk3 w.params b1 b2 g fo k refs n x y z u v o ak a b c ta tb tc N tk
  | 4, _ => spec_of w (rulesR_ok _ _ _ h) fun b1 b2 N tk => rt_chk4 w.params b1 b2 g fo k refs n x y z u v o ak a b c ta tb tc N tk
  | 5, _ => spec_of w (rulesR_ok _ _ _ h) fun b1 b2 N tk => rt_chk5 w.params b1 b2 g fo k refs n x y z u v o ak a b c ta tb tc N tk
  | 6, _ => spec_of w (rulesR_ok _ _ _ h) fun b1 b2 N tk => rt_chk6 w.params b1 b2 g fo k refs n x y z u v o ak a b c ta tb tc N tk
  | 7, _ => spec_of w (rulesR_ok _ _ _ h) fun b1 b2 N tk => rt_chk7 w.params b1 b2 g fo k refs n x y z u v o ak a b c ta tb tc N tk
  | 8, _ => spec_of w (rulesR_ok _ _ _ h) fun b1 b2 N tk => rt_chk8 w.params b1 b2 g fo k refs n x y z u v o ak a b c ta tb tc N tk
  | 9, _ => spec_of w (rulesR_ok _ _ _ h) fun b1 b2 N tk => rt_chk9 w.params b1 b2 g fo k refs n x y z u v o ak a b c ta tb tc N tk
  | 10, _ => spec_of w (rulesR_ok _ _ _ h) fun b1 b2 N tk => rt_chk10 w.params b1 b2 g fo k refs n x y z u v o ak a b c ta tb tc N tk
  | 11, _ => spec_of w (rulesR_ok _ _ _ h) fun b1 b2 N tk => rt_chk11 w.params b1 b2 g fo k refs n x y z u v o ak a b c ta tb tc N tk
  | 12, _ => spec_of w (rulesR_ok _ _ _ h) fun b1 b2 N tk => rt_chk12 w.params b1 b2 g fo k refs n x y z u v o ak a b c ta tb tc N tk
  | 13, _ => spec_of w (rulesR_ok _ _ _ h) fun b1 b2 N tk => rt_chk13 w.params b1 b2 g fo k refs n x y z u v o ak a b c ta tb tc N tk
  | 14, _ => spec_of w (rulesR_ok _ _ _ h) fun b1 b2 N tk => rt_chk14 w.params b1 b2 g fo k refs n x y z u v o ak a b c ta tb tc N tk
  | 15, _ => spec_of w (rulesR_ok _ _ _ h) fun b1 b2 N tk => rt_chk15 w.params b1 b2 g fo k refs n x y z u v o ak a b c ta tb tc N tk
  | 16, _ => spec_of w (rulesR_ok _ _ _ h) fun b1 b2 N tk => rt_chk16 w.params b1 b2 g fo k refs n x y z u v o ak a b c ta tb tc N tk
  | 17, _ => spec_of w (rulesR_ok _ _ _ h) fun b1 b2 N tk => rt_chk17 w.params b1 b2 g fo k refs n x y z u v o ak a b c ta tb tc N tk
  | 18, _ => spec_of w (rulesR_ok _ _ _ h) fun b1 b2 N tk => rt_chk18 w.params b1 b2 g fo k refs n x y z u v o ak a b c ta tb tc N tk
  | 19, _ => spec_of w (rulesR_ok _ _ _ h) fun b1 b2 N tk => rt_chk19 w.params b1 b2 g fo k refs n x y z u v o ak a b c ta tb tc N tk
  | c0 + 20, h => absurd h (by omega)
theorem pt_turn (w : World) (g : RX) (fo : Nat → Tok) (k : Nat) (refs : List Value) (n x y z u v o ak a b c ta tb tc : Nat) (h : refs[k]? = some (.ref ak)) : ∀ c0 : Nat, c0 ≤ 19 →
    CodeSpec pw0 w (ko w.params) 320 3700 (cRi w.params (fR true) (qR true) g) (riPre g c0 fo k refs n x y z u v o ak a b c ta tb tc) (riSpec w.params (fR true) (qR true) g c0 fo k refs n a b c ta tb tc a c b)
  | 0, _ => spec_of w (rulesR_ok _ _ _ h) fun b1 b2 N tk => pt2_chk0 w.params b1 b2 g fo k refs n x y z u v o ak a b c ta tb tc N tk
  | 1, _ => spec_of w (rulesR_ok _ _ _ h) fun b1 b2 N tk => pt2_chk1 w.params b1 b2 g fo k refs n x y z u v o ak a b c ta tb tc N tk
  | 2, _ => spec_of w (rulesR_ok _ _ _ h) fun b1 b2 N tk => pt2_chk2 w.params b1 b2 g fo k refs n x y z u v o ak a b c ta tb tc N tk
  | 3, _ => spec_of w (rulesR_ok _ _ _ h) fun b1 b2 N tk => pt2_chk3 w.params b1 b2 g fo k refs n x y z u v o ak a b c ta tb tc N tk
  | 4, _ => spec_of w (rulesR_ok _ _ _ h) fun b1 b2 N tk => pt2_chk4 w.params b1 b2 g fo k refs n x y z u v o ak a b c ta tb tc N tk
  | 5, _ => spec_of w (rulesR_ok _ _ _ h) fun b1 b2 N tk => pt2_chk5 w.params b1 b2 g fo k refs n x y z u v o ak a b c ta tb tc N tk
  | 6, _ => spec_of w (rulesR_ok _ _ _ h) fun b1 b2 N tk => pt2_chk6 w.params b1 b2 g fo k refs n x y z u v o ak a b c ta tb tc N tk
  | 7, _ => spec_of w (rulesR_ok _ _ _ h) fun b1 b2 N tk => pt2_chk7 w.params b1 b2 g fo k refs n x y z u v o ak a b c ta tb tc N tk
  | 8, _ => spec_of w (rulesR_ok _ _ _ h) fun b1 b2 N tk => pt2_chk8 w.params b1 b2 g fo k refs n x y z u v o ak a b c ta tb tc N tk
  | 9, _ => spec_of w (rulesR_ok _ _ _ h) fun b1 b2 N tk => pt2_chk9 w.params b1 b2 g fo k refs n x y z u v o ak a b c ta tb tc N tk
  | 10, _ => spec_of w (rulesR_ok _ _ _ h) fun b1 b2 N tk => pt2_chk10 w.params b1 b2 g fo k refs n x y z u v o ak a b c ta tb tc N tk
  | 11, _ => spec_of w (rulesR_ok _ _ _ h) fun b1 b2 N tk => pt2_chk11 w.params b1 b2 g fo k refs n x y z u v o ak a b c ta tb tc N tk
  | 12, _ => spec_of w (rulesR_ok _ _ _ h) fun b1 b2 N tk => pt2_chk12 w.params b1 b2 g fo k refs n x y z u v o ak a b c ta tb tc N tk
  | 13, _ => spec_of w (rulesR_ok _ _ _ h) fun b1 b2 N tk => pt2_chk13 w.params b1 b2 g fo k refs n x y z u v o ak a b c ta tb tc N tk
  | 14, _ => spec_of w (rulesR_ok _ _ _ h) fun b1 b2 N tk => pt2_chk14 w.params b1 b2 g fo k refs n x y z u v o ak a b c ta tb tc N tk
  | 15, _ => spec_of w (rulesR_ok _ _ _ h) fun b1 b2 N tk => pt2_chk15 w.params b1 b2 g fo k refs n x y z u v o ak a b c ta tb tc N tk
  | 16, _ => spec_of w (rulesR_ok _ _ _ h) fun b1 b2 N tk => pt2_chk16 w.params b1 b2 g fo k refs n x y z u v o ak a b c ta tb tc N tk
  | 17, _ => spec_of w (rulesR_ok _ _ _ h) fun b1 b2 N tk => pt2_chk17 w.params b1 b2 g fo k refs n x y z u v o ak a b c ta tb tc N tk
  | 18, _ => spec_of w (rulesR_ok _ _ _ h) fun b1 b2 N tk => pt2_chk18 w.params b1 b2 g fo k refs n x y z u v o ak a b c ta tb tc N tk
  | 19, _ => spec_of w (rulesR_ok _ _ _ h) fun b1 b2 N tk => pt2_chk19 w.params b1 b2 g fo k refs n x y z u v o ak a b c ta tb tc N tk
  | c0 + 20, h => absurd h (by omega)
theorem ri_turn (w : World) (pk : Bool) (g : RX) (fo : Nat → Tok) (k : Nat) (refs : List Value) (n x y z u v o ak a b c ta tb tc : Nat) (h : refs[k]? = some (.ref ak)) (c0 : Nat) (h19 : c0 ≤ 19) :
    CodeSpec pw0 w (ko w.params) 320 3700 (cRi w.params (fR pk) (qR pk) g) (riPre g c0 fo k refs n x y z u v o ak a b c ta tb tc) (riSpec w.params (fR pk) (qR pk) g c0 fo k refs n a b c ta tb tc (pR pk a b c).1 (pR pk a b c).2.1 (pR pk a b c).2.2) := by
  cases pk with
  | false => exact rt_turn w g fo k refs n x y z u v o ak a b c ta tb tc h c0 h19
  | true => exact pt_turn w g fo k refs n x y z u v o ak a b c ta tb tc h c0 h19
theorem ri_end (w : World) (pk : Bool) (g : RX) (fo : Nat → Tok) (c0 : Nat) (r : Nat → Addr) (n x y z u v o : Nat) :
    CodeSpec pw0 w (ko w.params) 320 3700 (cRi w.params (fR pk) (qR pk) g) [(g.it, itO g.lst 20), (g.acc, oList (onesF fo 0 c0) c0), (g.fr, oFr3 g (in3 x u) (in3 y v) (in3 z o)), (g.lst, oList (refsF r 0 20) n)] (reSpec g c0 fo r n x y z u v o) := by
  cases pk with
  | false => exact spec_of w (no_rules w _) fun b1 b2 N tk => re_chk w.params b1 b2 g c0 fo r n x y z u v o N tk
  | true => exact spec_of w (no_rules w _) fun b1 b2 N tk => pe_chk w.params b1 b2 g c0 fo r n x y z u v o N tk
noncomputable def tupX (n : Nat → Nat) (r : Nat → Addr) (T : Nat → Nat → Tok) : Nat → List (Nat × Nat × Nat) → List (Addr × Obj)
  | _, [] => []
  | i, p :: l => (r i, oTup [in3 (n p.1) (T i 0), in3 (n p.2.1) (T i 1), in3 (n p.2.2) (T i 2)]) :: tupX n r T (i + 1) l
theorem tupX_mem (n : Nat → Nat) (r : Nat → Addr) (T : Nat → Nat → Tok) : ∀ (i : Nat) (l : List (Nat × Nat × Nat)) (j : Nat) (p : Nat × Nat × Nat), l[j]? = some p → (r (i + j), oTup [in3 (n p.1) (T (i + j) 0), in3 (n p.2.1) (T (i + j) 1), in3 (n p.2.2) (T (i + j) 2)]) ∈ tupX n r T i l
  | _, [], j, p, h => by simp at h
  | i, q :: l, 0, p, h => by
    simp only [List.getElem?_cons_zero, Option.some.injEq] at h
    subst h
    exact List.mem_cons_self
  | i, q :: l, j + 1, p, h => by
    have := tupX_mem n r T (i + 1) l j p (by simpa using h)
    rw [show i + 1 + j = i + (j + 1) from by omega] at this
    exact List.mem_cons_of_mem _ this
theorem refsF_get (r : Nat → Addr) : ∀ (m i j : Nat), (refsF r i m)[j]? = if j < m then some (.ref (r (i + j))) else none
  | 0, i, j => by simp [refsF]
  | m + 1, i, 0 => by simp [refsF]
  | m + 1, i, j + 1 => by
    simp only [refsF, List.getElem?_cons_succ, refsF_get r m (i + 1) j]
    by_cases h : j < m
    · rw [if_pos h, if_pos (by omega), show i + 1 + j = i + (j + 1) from by omega]
    · rw [if_neg h, if_neg (by omega)]
theorem onesF_congr {f g : Nat → Tok} : ∀ (c i : Nat), (∀ j, i ≤ j → j < i + c → f j = g j) → onesF f i c = onesF g i c
  | 0, _, _ => rfl
  | c + 1, i, h => by
    show in3 1 (f i) :: onesF f (i + 1) c = in3 1 (g i) :: onesF g (i + 1) c
    rw [h i (Nat.le_refl _) (by omega), onesF_congr c (i + 1) fun j h1 h2 => h j (by omega) (by omega)]
theorem onesF_length (f : Nat → Tok) : ∀ (c i : Nat), (onesF f i c).length = c
  | 0, _ => rfl
  | c + 1, i => by simp [onesF, onesF_length f c (i + 1)]
noncomputable def xR (g : RX) (n : Nat → Nat) (r : Nat → Addr) (T : Nat → Nat → Tok) (m : Nat) : List (Addr × Obj) := (g.lst, oList (refsF r 0 20) m) :: tupX n r T 0 trips
noncomputable def cntR (pk : Bool) (n : Nat → Nat) : List (Nat × Nat × Nat) → Nat
  | [] => 0
  | p :: l => match hitR pk (n p.1) (n p.2.1) (n p.2.2) with
    | true => cntR pk n l + 1
    | false => cntR pk n l
noncomputable def lpPre (g : RX) (c : Nat) (fo : Nat → Tok) (k : Nat) (x y z u v o : Nat) : List (Addr × Obj) := [(g.it, itO g.lst k), (g.acc, oList (onesF fo 0 c) c), (g.fr, oFr3 g (in3 x u) (in3 y v) (in3 z o))]
noncomputable def lpSpec (g : RX) (cnt : Nat) : Spec := .leaf (fun _ => []) (fun ws => ⟨.res (.ok .next), [itX, oList (onesF (fun i => ws.getD (i + 6) 0) 0 cnt) cnt, oFr3 g (in3 (ws.getD 0 0) (ws.getD 3 0)) (in3 (ws.getD 1 0) (ws.getD 4 0)) (in3 (ws.getD 2 0) (ws.getD 5 0))], []⟩)
theorem quiet_ri (P : Params) (pk : Bool) (g : RX) : (cRi P (fR pk) (qR pk) g).quiet = true := rfl
theorem ri_loop (w : World) (pk : Bool) (g : RX) (n : Nat → Nat) (r : Nat → Addr) (T : Nat → Nat → Tok) (m : Nat) (hX : ∀ x ∈ xR g n r T m, ∀ o', ¬ ko w.params x.1 o') (hn : ((xR g n r T m).map (·.1)).Nodup) :
    ∀ (ps : List (Nat × Nat × Nat)) (k c : Nat) (fo : Nat → Tok) (x y z u v o : Nat), trips.drop k = ps → k + ps.length = 20 → c ≤ k →
      CodeSpec pw0 w (ktX (ko w.params) (xR g n r T m)) 320 3700 (cRi w.params (fR pk) (qR pk) g) (lpPre g c fo k x y z u v o) (lpSpec g (c + cntR pk n ps))
  | [], k, c, fo, x, y, z, u, v, o, _, hk, _ => by
    have hk : k = 20 := hk
    subst hk
    have C := ri_end w pk g fo c r m x y z u v o
    have C2 : CodeSpec pw0 w (ktX (ko w.params) (xR g n r T m)) 320 3700 (cRi w.params (fR pk) (qR pk) g) (lpPre g c fo 20 x y z u v o) (.leaf (fun _ => []) fun _ => ⟨.res (.ok .next), [itX, oList (onesF fo 0 c) c, oFr3 g (in3 x u) (in3 y v) (in3 z o)], []⟩) :=
      CodeSpec.absorb (ext := [(g.lst, oList (refsF r 0 20) m)]) (fun e he => by rw [List.mem_singleton] at he; subst he; exact List.mem_cons_self) hX (by simp) C
    refine C2.mono fun V h ws hp tk E => ?_
    have e : onesF (fun i => ([x, y, z, u, v, o] ++ (List.range c).map fo).getD (i + 6) 0) 0 c = onesF fo 0 c := by
      refine onesF_congr c 0 fun j _ hj => ?_
      show (x :: y :: z :: u :: v :: o :: (List.range c).map fo).getD (j + 6) 0 = fo j
      simp only [List.getD_eq_getElem?_getD, List.getElem?_cons_succ, List.getElem?_map]
      rw [List.getElem?_range (by omega)]
      rfl
    have z := h ([x, y, z, u, v, o] ++ (List.range c).map fo) hp tk
    dsimp only at z
    rw [show c + cntR pk n [] = c from rfl, e] at z
    exact z E
  | p :: ps, k, c, fo, x, y, z, u, v, o, hd, hk, hc => by
    have hk' : k < 20 := by simp only [List.length_cons] at hk; omega
    have hp : trips[k]? = some p := by
      have := congrArg (fun l : List (Nat × Nat × Nat) => l[0]?) hd
      simp only [List.getElem?_drop, List.getElem?_cons_zero, Nat.add_zero] at this
      exact this
    have hd' : trips.drop (k + 1) = ps := by
      have := congrArg (List.drop 1) hd
      rw [List.drop_drop] at this
      exact this
    have hr : (refsF r 0 20)[k]? = some (.ref (r k)) := by
      rw [refsF_get, if_pos hk', Nat.zero_add]
    have ht := tupX_mem n r T 0 trips k p hp
    rw [Nat.zero_add] at ht
    have hlk : g.lst ≠ r k := by
      unfold xR at hn
      rw [List.map_cons, List.nodup_cons] at hn
      intro e
      exact hn.1 (List.mem_map.mpr ⟨_, ht, e.symm⟩)
    have C := ri_turn w pk g fo k (refsF r 0 20) m x y z u v o (r k) (n p.1) (n p.2.1) (n p.2.2) (T k 0) (T k 1) (T k 2) hr c (by omega)
    have C2 : CodeSpec pw0 w (ktX (ko w.params) (xR g n r T m)) 320 3700 (cRi w.params (fR pk) (qR pk) g) (lpPre g c fo k x y z u v o)
        (riSpec3 w.params (fR pk) (qR pk) g c fo k (n p.1) (n p.2.1) (n p.2.2) (T k 0) (T k 1) (T k 2) (pR pk (n p.1) (n p.2.1) (n p.2.2)).1 (pR pk (n p.1) (n p.2.1) (n p.2.2)).2.1 (pR pk (n p.1) (n p.2.1) (n p.2.2)).2.2) :=
      CodeSpec.absorb (ext := [(g.lst, oList (refsF r 0 20) m), (r k, oTup [in3 (n p.1) (T k 0), in3 (n p.2.1) (T k 1), in3 (n p.2.2) (T k 2)])])
        (fun e he => by
          simp only [List.mem_cons, List.not_mem_nil, or_false] at he
          rcases he with rfl | rfl
          · exact List.mem_cons_self
          · exact List.mem_cons_of_mem _ ht) hX (by simp [hlk]) C
    intro A R s hA hD hU H hw
    have cmp : ∀ i j : Nat, decide (Int.ofNat i < Int.ofNat j) = decide (i < j) := fun i j => by
      apply decide_eq_decide.mpr
      rw [show Int.ofNat i = (i : Int) from rfl, show Int.ofNat j = (j : Int) from rfl]
      omega
    have miss : hitR pk (n p.1) (n p.2.1) (n p.2.2) = false → wpS ⟨pw0, w, ktX (ko w.params) (xR g n r T m), (lpPre g c fo k x y z u v o).map (fun x : Addr × Obj => x.1), s.heap, A, R, s.gens, s.drawn, s.os⟩
        (.leaf (fun _ => []) (fun _ => ⟨.again (cRi w.params (fR pk) (qR pk) g), [itO g.lst (k + 1), oList (onesF fo 0 c) c, oFr3 g (in3 (n p.1) (T k 0)) (in3 (n p.2.1) (T k 1)) (in3 (n p.2.2) (T k 2))], []⟩)) := fun hq ws hp' tk E => by
      refine ⟨quiet_ri _ _ _, ?_⟩
      have ih := ri_loop w pk g n r T m hX hn ps (k + 1) c fo (n p.1) (n p.2.1) (n p.2.2) (T k 0) (T k 1) (T k 2) hd' (by simp only [List.length_cons] at hk; omega) (by omega)
      refine code_next (pre := lpPre g c fo k x y z u v o) hA hD hU H E ih ?_
      have e : cntR pk n (p :: ps) = cntR pk n ps := by
        show (match hitR pk (n p.1) (n p.2.1) (n p.2.2) with | true => _ | false => _) = _
        rw [hq]
      rw [e] at hw
      exact hw
    refine C2 A R s hA hD hU H ⟨fun h1 => ⟨fun h2 => ⟨?_, fun ws hp' tk E => ⟨quiet_ri _ _ _, ?_⟩⟩, fun h2 => miss ?_⟩, fun h1 => miss ?_⟩
    · rw [onesF_length]; omega
    · have hq : hitR pk (n p.1) (n p.2.1) (n p.2.2) = true := by
        unfold hitR
        rw [cmp] at h1 h2
        rw [h1, h2]
        rfl
      have ih := ri_loop w pk g n r T m hX hn ps (k + 1) (c + 1) (fun i => ws.getD i 0) (n p.1) (n p.2.1) (n p.2.2) (T k 0) (T k 1) (T k 2) hd' (by simp only [List.length_cons] at hk; omega) (by omega)
      refine code_next (pre := lpPre g c fo k x y z u v o) hA hD hU H E ih ?_
      have e : c + cntR pk n (p :: ps) = c + 1 + cntR pk n ps := by
        have : cntR pk n (p :: ps) = cntR pk n ps + 1 := by
          show (match hitR pk (n p.1) (n p.2.1) (n p.2.2) with | true => _ | false => _) = _
          rw [hq]
        omega
      rw [e] at hw
      exact hw
    · unfold hitR
      rw [cmp] at h1 h2
      rw [h1, h2]
      rfl
    · unfold hitR
      rw [cmp] at h1
      rw [h1]
      rfl
end Mine

namespace Mine
open PySem PySem.Spec PySem.Calls PyProof.Rows PySem.W PySem.W.X

/-- _law_threes, as a rule -/
noncomputable def rTH (n : Nat → Nat) : RuleD where
  D := 320
  U := 3700
  code _ es := cTH (ad0 es)
  objs _ es := [(ad0 es, oList (six (iv n (tkI (ob0 es)))) (epOf (ob0 es)))]
  spec _ es := thSpec n (tkI (ob0 es)) (epOf (ob0 es))
theorem rTH_ok (w : World) (n : Nat → Nat) : RuleD.Ok pw0 w (ko w.params) (rTH n) := by
  intro cd es he
  refine cast_spec he ?_
  exact th_spec w (ad0 es) n (tkI (ob0 es)) (epOf (ob0 es))
noncomputable def envFr (c : Code) : Addr := match c with
  | .compLoop _ _ _ _ env => match env.frame with
    | some a => a
    | none => 0
  | _ => 0
noncomputable def rxOf (cd : Code) (es : List (Addr × Obj)) : RX where
  it := adK es 0
  acc := adK es 1
  fr := adK es 2
  F := envFr cd
  lst := adK es 3
  h := fun i => (entAt (obK es 2) i).hash
  t := fun i => sTok (entAt (obK es 2) i).key
noncomputable def natV (v : Value) : Nat := match v with
  | .int i _ => i.toNat
  | _ => 0
noncomputable def lpObjs (n : Nat → Nat) (c : Nat) (cd : Code) (es : List (Addr × Obj)) : List (Addr × Obj) :=
  lpPre (rxOf cd es) c (tkI (obK es 1)) 1 (natV (entAt (obK es 2) 0).val) (natV (entAt (obK es 2) 1).val) (natV (entAt (obK es 2) 2).val) (iTok (entAt (obK es 2) 0).val) (iTok (entAt (obK es 2) 1).val) (iTok (entAt (obK es 2) 2).val)
    ++ xR (rxOf cd es) n (fun i => adK es (4 + i)) (fun j i => iTok ((itemsOf (obK es (4 + j))).getD i .none)) (epOf (obK es 3))
noncomputable def lpXo (n : Nat → Nat) (cd : Code) (es : List (Addr × Obj)) : List Obj := (xR (rxOf cd es) n (fun i => adK es (4 + i)) (fun j i => iTok ((itemsOf (obK es (4 + j))).getD i .none)) (epOf (obK es 3))).map (·.2)
noncomputable def lpFr (cd : Code) (es : List (Addr × Obj)) (ws : List Nat) : Obj := oFr3 (rxOf cd es) (in3 (ws.getD 0 0) (ws.getD 3 0)) (in3 (ws.getD 1 0) (ws.getD 4 0)) (in3 (ws.getD 2 0) (ws.getD 5 0))
theorem lp_spec (w : World) (pk : Bool) (n : Nat → Nat) {c : Nat} (hc : c ≤ 1) (cd : Code) (es : List (Addr × Obj)) :
    CodeSpec pw0 w (ko w.params) 320 3700 (cRi w.params (fR pk) (qR pk) (rxOf cd es)) (lpObjs n c cd es) ((lpSpec (rxOf cd es) (c + cntR pk n (trips.drop 1))).app (lpXo n cd es)) :=
  CodeSpec.unabsorb fun hX hn => ri_loop w pk (rxOf cd es) n (fun i => adK es (4 + i)) (fun j i => iTok ((itemsOf (obK es (4 + j))).getD i .none)) (epOf (obK es 3)) hX hn (trips.drop 1) 1 c _ _ _ _ _ _ _ rfl rfl hc
/-- the rest of the loop, from the second triple on, nothing found yet -/
noncomputable def rLp0 (P : Params) (pk : Bool) (n : Nat → Nat) (rr : Bool) (cc : Nat) : RuleD where
  D := 320
  U := 3700
  code cd es := cRi P (fR pk) (qR pk) (rxOf cd es)
  objs cd es := lpObjs n 0 cd es
  spec cd es := .ask rr (.leaf (fun _ => []) fun ws => ⟨.res (.ok .next), itX :: oList (in3 1 (ws.getD 6 0) :: onesF (fun i => ws.getD (i + 6) 0) 1 cc) (cc + 1) :: lpFr cd es ws :: lpXo n cd es, []⟩)
    (.leaf (fun _ => []) fun ws => ⟨.res (.ok .next), itX :: oList [] 0 :: lpFr cd es ws :: lpXo n cd es, []⟩)
theorem rLp0_ok (w : World) (pk : Bool) (n : Nat → Nat) {rr : Bool} {cc : Nat} (h : cntR pk n (trips.drop 1) = match rr with | true => cc + 1 | false => 0) : RuleD.Ok pw0 w (ko w.params) (rLp0 w.params pk n rr cc) := by
  intro cd es he
  refine cast_spec he ?_
  refine (lp_spec w pk n (c := 0) (by omega) cd es).mono fun V hw => ?_
  rw [h]
  cases rr with
  | true =>
    have hw := hw.1 rfl
    rw [show 0 + (match true with | true => cc + 1 | false => 0) = cc + 1 from Nat.zero_add _]
    exact hw
  | false => exact hw.2 rfl
/-- the rest of the loop, the first triple found -/
noncomputable def rLp1 (P : Params) (pk : Bool) (n : Nat → Nat) (cc : Nat) : RuleD where
  D := 320
  U := 3700
  code cd es := cRi P (fR pk) (qR pk) (rxOf cd es)
  objs cd es := lpObjs n 1 cd es
  spec cd es := .leaf (fun _ => []) fun ws => ⟨.res (.ok .next), itX :: oList (in3 1 (ws.getD 6 0) :: onesF (fun i => ws.getD (i + 6) 0) 1 cc) (cc + 1) :: lpFr cd es ws :: lpXo n cd es, []⟩
theorem rLp1_ok (w : World) (pk : Bool) (n : Nat → Nat) {cc : Nat} (h : cntR pk n (trips.drop 1) = cc) : RuleD.Ok pw0 w (ko w.params) (rLp1 w.params pk n cc) := by
  intro cd es he
  refine cast_spec he ?_
  refine (lp_spec w pk n (c := 1) (by omega) cd es).mono fun V hw => ?_
  rw [h, Nat.add_comm]
  exact hw
noncomputable def rulesS (P : Params) (pk : Bool) (n : Nat → Nat) (rr : Bool) (c0 c1 : Nat) : List RuleD := [rTH n, rLp0 P pk n rr c0, rLp1 P pk n c1, rNeE, rLt]
theorem rulesS_ok (w : World) (pk : Bool) (n : Nat → Nat) {rr : Bool} {c0 c1 : Nat} (h0 : cntR pk n (trips.drop 1) = match rr with | true => c0 + 1 | false => 0) (h1 : cntR pk n (trips.drop 1) = c1) : ∀ r ∈ rulesS w.params pk n rr c0 c1, RuleD.Ok pw0 w (ko w.params) r := by
  intro r hr
  simp only [rulesS, List.mem_cons, List.not_mem_nil, or_false] at hr
  rcases hr with rfl | rfl | rfl | rfl | rfl
  · exact rTH_ok _ _
  · exact rLp0_ok _ _ _ h0
  · exact rLp1_ok _ _ _ h1
  · exact rNeE_ok _ _ _
  · exact rLt_ok _ _ _
noncomputable abbrev cRS (pk : Bool) (a : Addr) : Code := .call (.ref (fR pk)) ⟨[.ref a], []⟩
noncomputable def rsLeaf (n : Nat → Nat) (t : Nat → Tok) (e : Nat) (b : Bool) : Spec := .leaf (fun _ => []) (fun _ => ⟨.res (.ok (.ret (.bool b))), [oList (six (iv n t)) e], []⟩)
noncomputable def rsRaw (pk : Bool) (n : Nat → Nat) (t : Nat → Tok) (e : Nat) (rr : Bool) : Spec :=
  .ask (decide (Int.ofNat (pR pk (n 0) (n 1) (n 2)).1 < Int.ofNat (pR pk (n 0) (n 1) (n 2)).2.1))
    (.ask (decide (Int.ofNat (pR pk (n 0) (n 1) (n 2)).2.1 < Int.ofNat (pR pk (n 0) (n 1) (n 2)).2.2)) (rsLeaf n t e true) (.ask rr (rsLeaf n t e true) (rsLeaf n t e false)))
    (.ask rr (rsLeaf n t e true) (rsLeaf n t e false))
noncomputable def tgRS : Bool → Bool → Tg
  | false, true => (gl (gf (gl (gf (gl g0 [0, 25, 0, 25, 25, 25, 5, 24, 23, 24, 25, 2, 3, 4, 5, 6, 7, 8, 9, 10, 11, 12, 13, 14, 15, 16, 17, 18, 19, 20, 21, 22, 26, 26, 26, 26, 26, 26, 26, 26, 26, 25, 30, 25, 0, 25, 6, 2, 24, 29]) (gl (gf (gl g0 [26, 26, 26, 26, 26, 26, 26, 26, 26, 25, 30, 25, 0, 25, 6, 2, 24, 29]) (gl g0 [26, 26, 26, 26, 26, 26, 26, 26, 26, 25, 30, 25, 0, 25, 0, 30, 25, 30, 0, 25, 30, 25, 30])) [4, 24, 23, 24, 25, 2, 3, 4, 5, 6, 7, 8, 9, 10, 11, 12, 13, 14, 15, 16, 17, 18, 19, 20, 21, 22])) [26, 0, 7, 0]) (gl (gf (gl g0 [26, 26, 26, 26, 26, 26, 26, 26, 26, 25, 30, 25, 0, 25, 6, 2, 24, 29]) (gl g0 [26, 26, 26, 26, 26, 26, 26, 26, 26, 25, 30, 25, 0, 25, 0, 30, 25, 30, 0, 25, 30, 25, 30])) [4, 24, 23, 24, 25, 2, 3, 4, 5, 6, 7, 8, 9, 10, 11, 12, 13, 14, 15, 16, 17, 18, 19, 20, 21, 22])) [1, 0, 0, 2, 2, 0, 2, 0, 3, 1, 0, 3, 3, 0, 3, 0, 24, 0, 0, 24, 0, 24, 0, 24, 24, 3, 24, 24, 24, 4, 4, 4, 0, 4, 0, 27, 27, 0, 27, 0, 27, 27, 4, 27, 27, 27, 0, 27, 0, 27, 27, 4, 27, 27, 27, 0, 27, 0, 27, 27, 4, 27, 27, 27, 0, 27, 0, 27, 27, 4, 27, 27, 29, 26, 26, 26, 26, 26, 26, 26, 26, 0, 7, 0])
  | false, false => (gl (gf (gl (gf (gl g0 [0, 25, 0, 25, 25, 25, 5, 24, 23, 24, 25, 2, 3, 4, 5, 6, 7, 8, 9, 10, 11, 12, 13, 14, 15, 16, 17, 18, 19, 20, 21, 22, 26, 26, 26, 26, 26, 26, 26, 26, 26, 25, 30, 25, 0, 25, 6, 2, 24, 29]) (gl (gf (gl g0 [26, 26, 26, 26, 26, 26, 26, 26, 26, 25, 30, 25, 0, 25, 6, 2, 24, 29]) (gl g0 [26, 26, 26, 26, 26, 26, 26, 26, 26, 25, 30, 25, 0, 25, 0, 30, 25, 30, 0, 25, 30, 25, 30])) [4, 24, 23, 24, 25, 2, 3, 4, 5, 6, 7, 8, 9, 10, 11, 12, 13, 14, 15, 16, 17, 18, 19, 20, 21, 22])) [26, 0, 7, 0]) (gl (gf (gl g0 [26, 26, 26, 26, 26, 26, 26, 26, 26, 25, 30, 25, 0, 25, 6, 2, 24, 29]) (gl g0 [26, 26, 26, 26, 26, 26, 26, 26, 26, 25, 30, 25, 0, 25, 0, 30, 25, 30, 0, 25, 30, 25, 30])) [4, 24, 23, 24, 25, 2, 3, 4, 5, 6, 7, 8, 9, 10, 11, 12, 13, 14, 15, 16, 17, 18, 19, 20, 21, 22])) [1, 0, 0, 2, 2, 0, 2, 0, 3, 1, 0, 3, 3, 0, 3, 0, 24, 0, 24, 24, 0, 24, 0, 24, 0, 24, 0, 24, 0, 24, 24, 3, 24, 24, 24, 4, 4, 4, 0, 4, 0, 27, 27, 0, 27, 0, 27, 27, 4, 27, 27, 27, 0, 27, 0, 27, 27, 4, 27, 27, 27, 0, 27, 0, 27, 27, 4, 27, 27, 27, 0, 27, 0, 27, 27, 4, 27, 27, 29, 26, 26, 26, 26, 26, 26, 26, 26, 0, 7, 0])
  | true, true => (gl (gf (gl (gf (gl g0 [0, 25, 0, 25, 25, 25, 5, 24, 23, 24, 25, 2, 3, 4, 5, 6, 7, 8, 9, 10, 11, 12, 13, 14, 15, 16, 17, 18, 19, 20, 21, 22, 26, 26, 26, 26, 26, 26, 26, 26, 26, 25, 30, 25, 0, 25, 6, 2, 24, 29]) (gl (gf (gl g0 [26, 26, 26, 26, 26, 26, 26, 26, 26, 25, 30, 25, 0, 25, 6, 2, 24, 29]) (gl g0 [26, 26, 26, 26, 26, 26, 26, 26, 26, 25, 30, 25, 0, 25, 0, 30, 25, 30, 0, 25, 30, 25, 30])) [4, 24, 23, 24, 25, 2, 3, 4, 5, 6, 7, 8, 9, 10, 11, 12, 13, 14, 15, 16, 17, 18, 19, 20, 21, 22])) [26, 0, 7, 0]) (gl (gf (gl g0 [26, 26, 26, 26, 26, 26, 26, 26, 26, 25, 30, 25, 0, 25, 6, 2, 24, 29]) (gl g0 [26, 26, 26, 26, 26, 26, 26, 26, 26, 25, 30, 25, 0, 25, 0, 30, 25, 30, 0, 25, 30, 25, 30])) [4, 24, 23, 24, 25, 2, 3, 4, 5, 6, 7, 8, 9, 10, 11, 12, 13, 14, 15, 16, 17, 18, 19, 20, 21, 22])) [1, 0, 0, 2, 2, 0, 2, 0, 3, 1, 0, 3, 3, 0, 3, 0, 24, 0, 0, 24, 0, 24, 0, 24, 24, 3, 24, 24, 24, 4, 4, 4, 0, 4, 0, 27, 27, 0, 27, 0, 27, 27, 4, 27, 27, 27, 0, 27, 0, 27, 27, 4, 27, 27, 27, 0, 27, 0, 27, 27, 4, 27, 27, 27, 0, 27, 0, 27, 27, 4, 27, 27, 29, 26, 26, 26, 26, 26, 26, 26, 26, 0, 7, 0])
  | true, false => (gl (gf (gl (gf (gl g0 [0, 25, 0, 25, 25, 25, 5, 24, 23, 24, 25, 2, 3, 4, 5, 6, 7, 8, 9, 10, 11, 12, 13, 14, 15, 16, 17, 18, 19, 20, 21, 22, 26, 26, 26, 26, 26, 26, 26, 26, 26, 25, 30, 25, 0, 25, 6, 2, 24, 29]) (gl (gf (gl g0 [26, 26, 26, 26, 26, 26, 26, 26, 26, 25, 30, 25, 0, 25, 6, 2, 24, 29]) (gl g0 [26, 26, 26, 26, 26, 26, 26, 26, 26, 25, 30, 25, 0, 25, 0, 30, 25, 30, 0, 25, 30, 25, 30])) [4, 24, 23, 24, 25, 2, 3, 4, 5, 6, 7, 8, 9, 10, 11, 12, 13, 14, 15, 16, 17, 18, 19, 20, 21, 22])) [26, 0, 7, 0]) (gl (gf (gl g0 [26, 26, 26, 26, 26, 26, 26, 26, 26, 25, 30, 25, 0, 25, 6, 2, 24, 29]) (gl g0 [26, 26, 26, 26, 26, 26, 26, 26, 26, 25, 30, 25, 0, 25, 0, 30, 25, 30, 0, 25, 30, 25, 30])) [4, 24, 23, 24, 25, 2, 3, 4, 5, 6, 7, 8, 9, 10, 11, 12, 13, 14, 15, 16, 17, 18, 19, 20, 21, 22])) [1, 0, 0, 2, 2, 0, 2, 0, 3, 1, 0, 3, 3, 0, 3, 0, 24, 0, 24, 24, 0, 24, 0, 24, 0, 24, 0, 24, 0, 24, 24, 3, 24, 24, 24, 4, 4, 4, 0, 4, 0, 27, 27, 0, 27, 0, 27, 27, 4, 27, 27, 27, 0, 27, 0, 27, 27, 4, 27, 27, 27, 0, 27, 0, 27, 27, 4, 27, 27, 27, 0, 27, 0, 27, 27, 4, 27, 27, 29, 26, 26, 26, 26, 26, 26, 26, 26, 0, 7, 0])
noncomputable abbrev ckRS (P : Params) (b1 b2 pk : Bool) (a : Addr) (n : Nat → Nat) (t : Nat → Tok) (e : Nat) (rr : Bool) (c0 c1 N tk : Nat) : Chk :=
  chkOf P b1 b2 (rulesS P pk n rr c0 c1) (cRS pk a) 310 3600 [(a, oList (six (iv n t)) e)] N tk (tgRS pk b2) (rsRaw pk n t e rr)
set_option maxHeartbeats 0
theorem rs_chk (P : Params) (b1 b2 pk : Bool) (a : Addr) (n : Nat → Nat) (t : Nat → Tok) (e : Nat) (rr : Bool) (c0 c1 N tk : Nat) : (ckRS P b1 b2 pk a n t e rr c0 c1 N tk).lhs = (ckRS P b1 b2 pk a n t e rr c0 c1 N tk).rhs := by
  cases b1 <;> cases b2 <;> cases pk <;> kernel_rfl
set_option maxHeartbeats 200000
/-- is there a triple of the kind? -/
noncomputable def anyR (pk : Bool) (n : Nat → Nat) : List (Nat × Nat × Nat) → Bool
  | [] => false
  | p :: l => match hitR pk (n p.1) (n p.2.1) (n p.2.2) with
    | true => true
    | false => anyR pk n l
theorem anyR_cnt (pk : Bool) (n : Nat → Nat) : ∀ l : List (Nat × Nat × Nat), anyR pk n l = decide (0 < cntR pk n l)
  | [] => rfl
  | p :: l => by
    unfold anyR cntR
    cases hitR pk (n p.1) (n p.2.1) (n p.2.2) with
    | true => simp
    | false => exact anyR_cnt pk n l
theorem rs_spec (w : World) (pk : Bool) (a : Addr) (n : Nat → Nat) (t : Nat → Tok) (e : Nat) : CodeSpec pw0 w (ko w.params) 310 3600 (cRS pk a) [(a, oList (six (iv n t)) e)] (rsLeaf n t e (anyR pk n trips)) := by
  have h0 : cntR pk n (trips.drop 1) = match anyR pk n (trips.drop 1) with | true => (cntR pk n (trips.drop 1) - 1) + 1 | false => 0 := by
    rw [anyR_cnt]
    by_cases q : 0 < cntR pk n (trips.drop 1)
    · rw [decide_eq_true q]; exact (Nat.sub_add_cancel q).symm
    · rw [decide_eq_false q]; exact Nat.eq_zero_of_not_pos q
  refine CodeSpec.mono (spec_ofT (tags := tgRS pk) w (rulesS_ok w pk n h0 rfl) fun b1 b2 N tk => rs_chk w.params b1 b2 pk a n t e _ _ _ N tk) fun V hw => ?_
  have cmp : ∀ i j : Nat, decide (Int.ofNat i < Int.ofNat j) = decide (i < j) := fun i j => by
    apply decide_eq_decide.mpr
    rw [show Int.ofNat i = (i : Int) from rfl, show Int.ofNat j = (j : Int) from rfl]
    omega
  have any : anyR pk n trips = (hitR pk (n 0) (n 1) (n 2) || anyR pk n (trips.drop 1)) := by
    show (match hitR pk (n 0) (n 1) (n 2) with | true => true | false => anyR pk n (trips.drop 1)) = _
    cases hitR pk (n 0) (n 1) (n 2) <;> rfl
  have miss : hitR pk (n 0) (n 1) (n 2) = false → wpS V (.ask (anyR pk n (trips.drop 1)) (rsLeaf n t e true) (rsLeaf n t e false)) := fun hq => by
    rw [any, hq, Bool.false_or] at hw
    refine ⟨fun q => ?_, fun q => ?_⟩
    · rw [q] at hw; exact hw
    · rw [q] at hw; exact hw
  refine ⟨fun h1 => ⟨fun h2 => ?_, fun h2 => miss ?_⟩, fun h1 => miss ?_⟩
  · rw [cmp] at h1 h2
    have : hitR pk (n 0) (n 1) (n 2) = true := by unfold hitR; rw [h1, h2]; rfl
    rw [any, this, Bool.true_or] at hw
    exact hw
  · rw [cmp] at h1 h2
    unfold hitR; rw [h1, h2]; rfl
  · rw [cmp] at h1
    unfold hitR; rw [h1]; rfl
/-- _law_rises (false), _law_peaks (true), the answer known -/
noncomputable def rRSK (pk : Bool) (l : List Nat) (b : Bool) : RuleD where
  D := 310
  U := 3600
  code _ es := cRS pk (ad0 es)
  objs _ es := [(ad0 es, oInts (tkI (ob0 es)) l (epOf (ob0 es)))]
  spec _ es := .leaf (fun _ => []) (fun _ => ⟨.res (.ok (.ret (.bool b))), [oInts (tkI (ob0 es)) l (epOf (ob0 es))], []⟩)
noncomputable def rRSA (pk : Bool) (l : List Nat) (b : Bool) : RuleD where
  D := 310
  U := 3600
  code _ es := cRS pk (ad0 es)
  objs _ es := [(ad0 es, oInts (tkI (ob0 es)) l (epOf (ob0 es)))]
  spec _ es := .ask b (.leaf (fun _ => []) (fun _ => ⟨.res (.ok (.ret (.bool true))), [oInts (tkI (ob0 es)) l (epOf (ob0 es))], []⟩)) (.leaf (fun _ => []) (fun _ => ⟨.res (.ok (.ret (.bool false))), [oInts (tkI (ob0 es)) l (epOf (ob0 es))], []⟩))
theorem rRSK_ok (w : World) (pk : Bool) (n : Nat → Nat) {b : Bool} (h : anyR pk n trips = b) : RuleD.Ok pw0 w (ko w.params) (rRSK pk (rowF n 0 6) b) := by
  intro cd es he
  refine cast_spec he ?_
  rw [← h]
  exact rs_spec w pk (ad0 es) n (tkI (ob0 es)) (epOf (ob0 es))
theorem rRSA_ok (w : World) (pk : Bool) (n : Nat → Nat) {b : Bool} (h : anyR pk n trips = b) : RuleD.Ok pw0 w (ko w.params) (rRSA pk (rowF n 0 6) b) := by
  intro cd es he
  refine cast_spec he ?_
  refine (rs_spec w pk (ad0 es) n (tkI (ob0 es)) (epOf (ob0 es))).mono fun V hw => ?_
  rw [h]
  cases b with
  | true => exact hw.1 rfl
  | false => exact hw.2 rfl
end Mine

namespace Mine
open PySem PySem.Spec PySem.Calls PyProof.Rows PySem.W PySem.W.X

noncomputable def minB : String := S.litE [S.mk8 109 rfl, S.mk8 105 rfl, S.mk8 110 rfl] [109, 105, 110] rfl rfl
theorem minB_is : minB = "min" := eqLit_is "min" (n := 7301742) (by decide +kernel) (by kernel_rfl)
noncomputable def minT (K : Nat → Spec) (n : Nat → Nat) : Nat → Nat → Nat → Spec
  | 0, _, b => K b
  | f + 1, j, b => .ask (decide (Int.ofNat (n j) < Int.ofNat (n b))) (minT K n f (j + 1) j) (minT K n f (j + 1) b)
noncomputable def minI (n : Nat → Nat) : Nat → Nat → Nat → Nat
  | 0, _, b => b
  | f + 1, j, b => match Nat.blt (n j) (n b) with
    | true => minI n f (j + 1) j
    | false => minI n f (j + 1) b
theorem minT_of {V : BV} {K : Nat → Spec} {n : Nat → Nat} : ∀ f j b : Nat, wpS V (K (minI n f j b)) → wpS V (minT K n f j b)
  | 0, _, _, h => h
  | f + 1, j, b, h => by
    have cmp : decide (Int.ofNat (n j) < Int.ofNat (n b)) = Nat.blt (n j) (n b) := by
      cases q : Nat.blt (n j) (n b) with
      | true => exact decide_eq_true (Int.ofNat_lt.mpr (Nat.le_of_ble_eq_true q))
      | false =>
        refine decide_eq_false fun h => ?_
        have h := Int.ofNat_lt.mp h
        have : Nat.blt (n j) (n b) = true := Nat.ble_eq_true_of_le h
        rw [q] at this
        cases this
    unfold minI at h
    refine ⟨fun q => ?_, fun q => ?_⟩
    · rw [cmp] at q; rw [q] at h; exact minT_of f _ _ h
    · rw [cmp] at q; rw [q] at h; exact minT_of f _ _ h
noncomputable abbrev cMN (a : Addr) : Code := .builtin minB ⟨[.ref a], []⟩
noncomputable def mnRaw (n : Nat → Nat) (t : Nat → Tok) (e m : Nat) : Spec := minT (fun b => .leaf (fun _ => []) (fun _ => ⟨.res (.ok (.ret (.int (Int.ofNat (n b)) (t b)))), [oInts t (rowF n 0 m) e], []⟩)) n (m - 1) 1 0
noncomputable def rulesL : List RuleD := [rLt]
theorem rulesL_ok (prog : Program) (w : World) (kt : Addr → Obj → Prop) : ∀ r ∈ rulesL, RuleD.Ok prog w kt r := by
  intro r hr
  simp only [rulesL, List.mem_cons, List.not_mem_nil, or_false] at hr
  rcases hr with rfl
  exact rLt_ok _ _ _
noncomputable abbrev ckMN (P : Params) (b1 b2 : Bool) (a : Addr) (n : Nat → Nat) (t : Nat → Tok) (e m N tk : Nat) (tg : Tg) : Chk :=
  chkOf P b1 b2 rulesL (cMN a) 340 3900 [(a, oInts t (rowF n 0 m) e)] N tk tg (mnRaw n t e m)
noncomputable def tgMN1 : Tg := (gl g0 [0, 1, 1, 0, 1, 0, 2, 0, 3, 2, 0, 2, 0, 2, 2, 1, 2, 2, 3, 3, 3, 0, 3, 2, 0, 2, 0, 2, 2, 1, 2, 2, 5, 3, 3, 3])
noncomputable def tgMN2 : Tg := (gl (gf (gl g0 [3, 3, 3, 0, 3, 2, 0, 2, 0, 2, 2, 1, 2, 2, 5, 3, 3, 3]) (gl g0 [0, 3, 2, 0, 2, 0, 2, 2, 1, 2, 2, 5, 3, 3, 3])) [0, 1, 1, 0, 1, 0, 2, 0, 3, 2, 0, 2, 0, 2, 2, 1, 2, 2, 3, 3, 3, 0, 3, 2, 0, 2, 0, 2, 2, 1, 2, 2, 0, 3, 0])
noncomputable def tgMN3 : Tg := (gl (gf (gl (gf (gl g0 [3, 3, 3, 0, 3, 2, 0, 2, 0, 2, 2, 1, 2, 2, 5, 3, 3, 3]) (gl g0 [0, 3, 2, 0, 2, 0, 2, 2, 1, 2, 2, 5, 3, 3, 3])) [3, 3, 3, 0, 3, 2, 0, 2, 0, 2, 2, 1, 2, 2, 0, 3, 0]) (gl (gf (gl g0 [3, 3, 3, 0, 3, 2, 0, 2, 0, 2, 2, 1, 2, 2, 5, 3, 3, 3]) (gl g0 [0, 3, 2, 0, 2, 0, 2, 2, 1, 2, 2, 5, 3, 3, 3])) [0, 3, 2, 0, 2, 0, 2, 2, 1, 2, 2, 0, 3, 0])) [0, 1, 1, 0, 1, 0, 2, 0, 3, 2, 0, 2, 0, 2, 2, 1, 2, 2, 3, 3, 3, 0, 3, 2, 0, 2, 0, 2, 2, 1, 2, 2, 0, 3, 0])
noncomputable def tgMN4 : Tg := (gl (gf (gl (gf (gl (gf (gl g0 [3, 3, 3, 0, 3, 2, 0, 2, 0, 2, 2, 1, 2, 2, 5, 3, 3, 3]) (gl g0 [0, 3, 2, 0, 2, 0, 2, 2, 1, 2, 2, 5, 3, 3, 3])) [3, 3, 3, 0, 3, 2, 0, 2, 0, 2, 2, 1, 2, 2, 0, 3, 0]) (gl (gf (gl g0 [3, 3, 3, 0, 3, 2, 0, 2, 0, 2, 2, 1, 2, 2, 5, 3, 3, 3]) (gl g0 [0, 3, 2, 0, 2, 0, 2, 2, 1, 2, 2, 5, 3, 3, 3])) [0, 3, 2, 0, 2, 0, 2, 2, 1, 2, 2, 0, 3, 0])) [3, 3, 3, 0, 3, 2, 0, 2, 0, 2, 2, 1, 2, 2, 0, 3, 0]) (gl (gf (gl (gf (gl g0 [3, 3, 3, 0, 3, 2, 0, 2, 0, 2, 2, 1, 2, 2, 5, 3, 3, 3]) (gl g0 [0, 3, 2, 0, 2, 0, 2, 2, 1, 2, 2, 5, 3, 3, 3])) [3, 3, 3, 0, 3, 2, 0, 2, 0, 2, 2, 1, 2, 2, 0, 3, 0]) (gl (gf (gl g0 [3, 3, 3, 0, 3, 2, 0, 2, 0, 2, 2, 1, 2, 2, 5, 3, 3, 3]) (gl g0 [0, 3, 2, 0, 2, 0, 2, 2, 1, 2, 2, 5, 3, 3, 3])) [0, 3, 2, 0, 2, 0, 2, 2, 1, 2, 2, 0, 3, 0])) [0, 3, 2, 0, 2, 0, 2, 2, 1, 2, 2, 0, 3, 0])) [0, 1, 1, 0, 1, 0, 2, 0, 3, 2, 0, 2, 0, 2, 2, 1, 2, 2, 3, 3, 3, 0, 3, 2, 0, 2, 0, 2, 2, 1, 2, 2, 0, 3, 0])
noncomputable def tgMN5 : Tg := (gl (gf (gl (gf (gl (gf (gl (gf (gl g0 [3, 3, 3, 0, 3, 2, 0, 2, 0, 2, 2, 1, 2, 2, 5, 3, 3, 3]) (gl g0 [0, 3, 2, 0, 2, 0, 2, 2, 1, 2, 2, 5, 3, 3, 3])) [3, 3, 3, 0, 3, 2, 0, 2, 0, 2, 2, 1, 2, 2, 0, 3, 0]) (gl (gf (gl g0 [3, 3, 3, 0, 3, 2, 0, 2, 0, 2, 2, 1, 2, 2, 5, 3, 3, 3]) (gl g0 [0, 3, 2, 0, 2, 0, 2, 2, 1, 2, 2, 5, 3, 3, 3])) [0, 3, 2, 0, 2, 0, 2, 2, 1, 2, 2, 0, 3, 0])) [3, 3, 3, 0, 3, 2, 0, 2, 0, 2, 2, 1, 2, 2, 0, 3, 0]) (gl (gf (gl (gf (gl g0 [3, 3, 3, 0, 3, 2, 0, 2, 0, 2, 2, 1, 2, 2, 5, 3, 3, 3]) (gl g0 [0, 3, 2, 0, 2, 0, 2, 2, 1, 2, 2, 5, 3, 3, 3])) [3, 3, 3, 0, 3, 2, 0, 2, 0, 2, 2, 1, 2, 2, 0, 3, 0]) (gl (gf (gl g0 [3, 3, 3, 0, 3, 2, 0, 2, 0, 2, 2, 1, 2, 2, 5, 3, 3, 3]) (gl g0 [0, 3, 2, 0, 2, 0, 2, 2, 1, 2, 2, 5, 3, 3, 3])) [0, 3, 2, 0, 2, 0, 2, 2, 1, 2, 2, 0, 3, 0])) [0, 3, 2, 0, 2, 0, 2, 2, 1, 2, 2, 0, 3, 0])) [3, 3, 3, 0, 3, 2, 0, 2, 0, 2, 2, 1, 2, 2, 0, 3, 0]) (gl (gf (gl (gf (gl (gf (gl g0 [3, 3, 3, 0, 3, 2, 0, 2, 0, 2, 2, 1, 2, 2, 5, 3, 3, 3]) (gl g0 [0, 3, 2, 0, 2, 0, 2, 2, 1, 2, 2, 5, 3, 3, 3])) [3, 3, 3, 0, 3, 2, 0, 2, 0, 2, 2, 1, 2, 2, 0, 3, 0]) (gl (gf (gl g0 [3, 3, 3, 0, 3, 2, 0, 2, 0, 2, 2, 1, 2, 2, 5, 3, 3, 3]) (gl g0 [0, 3, 2, 0, 2, 0, 2, 2, 1, 2, 2, 5, 3, 3, 3])) [0, 3, 2, 0, 2, 0, 2, 2, 1, 2, 2, 0, 3, 0])) [3, 3, 3, 0, 3, 2, 0, 2, 0, 2, 2, 1, 2, 2, 0, 3, 0]) (gl (gf (gl (gf (gl g0 [3, 3, 3, 0, 3, 2, 0, 2, 0, 2, 2, 1, 2, 2, 5, 3, 3, 3]) (gl g0 [0, 3, 2, 0, 2, 0, 2, 2, 1, 2, 2, 5, 3, 3, 3])) [3, 3, 3, 0, 3, 2, 0, 2, 0, 2, 2, 1, 2, 2, 0, 3, 0]) (gl (gf (gl g0 [3, 3, 3, 0, 3, 2, 0, 2, 0, 2, 2, 1, 2, 2, 5, 3, 3, 3]) (gl g0 [0, 3, 2, 0, 2, 0, 2, 2, 1, 2, 2, 5, 3, 3, 3])) [0, 3, 2, 0, 2, 0, 2, 2, 1, 2, 2, 0, 3, 0])) [0, 3, 2, 0, 2, 0, 2, 2, 1, 2, 2, 0, 3, 0])) [0, 3, 2, 0, 2, 0, 2, 2, 1, 2, 2, 0, 3, 0])) [0, 1, 1, 0, 1, 0, 2, 0, 3, 2, 0, 2, 0, 2, 2, 1, 2, 2, 3, 3, 3, 0, 3, 2, 0, 2, 0, 2, 2, 1, 2, 2, 0, 3, 0])
noncomputable def tgMN6 : Tg := (gl (gf (gl (gf (gl (gf (gl (gf (gl (gf (gl g0 [3, 3, 3, 0, 3, 2, 0, 2, 0, 2, 2, 1, 2, 2, 5, 3, 3, 3]) (gl g0 [0, 3, 2, 0, 2, 0, 2, 2, 1, 2, 2, 5, 3, 3, 3])) [3, 3, 3, 0, 3, 2, 0, 2, 0, 2, 2, 1, 2, 2, 0, 3, 0]) (gl (gf (gl g0 [3, 3, 3, 0, 3, 2, 0, 2, 0, 2, 2, 1, 2, 2, 5, 3, 3, 3]) (gl g0 [0, 3, 2, 0, 2, 0, 2, 2, 1, 2, 2, 5, 3, 3, 3])) [0, 3, 2, 0, 2, 0, 2, 2, 1, 2, 2, 0, 3, 0])) [3, 3, 3, 0, 3, 2, 0, 2, 0, 2, 2, 1, 2, 2, 0, 3, 0]) (gl (gf (gl (gf (gl g0 [3, 3, 3, 0, 3, 2, 0, 2, 0, 2, 2, 1, 2, 2, 5, 3, 3, 3]) (gl g0 [0, 3, 2, 0, 2, 0, 2, 2, 1, 2, 2, 5, 3, 3, 3])) [3, 3, 3, 0, 3, 2, 0, 2, 0, 2, 2, 1, 2, 2, 0, 3, 0]) (gl (gf (gl g0 [3, 3, 3, 0, 3, 2, 0, 2, 0, 2, 2, 1, 2, 2, 5, 3, 3, 3]) (gl g0 [0, 3, 2, 0, 2, 0, 2, 2, 1, 2, 2, 5, 3, 3, 3])) [0, 3, 2, 0, 2, 0, 2, 2, 1, 2, 2, 0, 3, 0])) [0, 3, 2, 0, 2, 0, 2, 2, 1, 2, 2, 0, 3, 0])) [3, 3, 3, 0, 3, 2, 0, 2, 0, 2, 2, 1, 2, 2, 0, 3, 0]) (gl (gf (gl (gf (gl (gf (gl g0 [3, 3, 3, 0, 3, 2, 0, 2, 0, 2, 2, 1, 2, 2, 5, 3, 3, 3]) (gl g0 [0, 3, 2, 0, 2, 0, 2, 2, 1, 2, 2, 5, 3, 3, 3])) [3, 3, 3, 0, 3, 2, 0, 2, 0, 2, 2, 1, 2, 2, 0, 3, 0]) (gl (gf (gl g0 [3, 3, 3, 0, 3, 2, 0, 2, 0, 2, 2, 1, 2, 2, 5, 3, 3, 3]) (gl g0 [0, 3, 2, 0, 2, 0, 2, 2, 1, 2, 2, 5, 3, 3, 3])) [0, 3, 2, 0, 2, 0, 2, 2, 1, 2, 2, 0, 3, 0])) [3, 3, 3, 0, 3, 2, 0, 2, 0, 2, 2, 1, 2, 2, 0, 3, 0]) (gl (gf (gl (gf (gl g0 [3, 3, 3, 0, 3, 2, 0, 2, 0, 2, 2, 1, 2, 2, 5, 3, 3, 3]) (gl g0 [0, 3, 2, 0, 2, 0, 2, 2, 1, 2, 2, 5, 3, 3, 3])) [3, 3, 3, 0, 3, 2, 0, 2, 0, 2, 2, 1, 2, 2, 0, 3, 0]) (gl (gf (gl g0 [3, 3, 3, 0, 3, 2, 0, 2, 0, 2, 2, 1, 2, 2, 5, 3, 3, 3]) (gl g0 [0, 3, 2, 0, 2, 0, 2, 2, 1, 2, 2, 5, 3, 3, 3])) [0, 3, 2, 0, 2, 0, 2, 2, 1, 2, 2, 0, 3, 0])) [0, 3, 2, 0, 2, 0, 2, 2, 1, 2, 2, 0, 3, 0])) [0, 3, 2, 0, 2, 0, 2, 2, 1, 2, 2, 0, 3, 0])) [3, 3, 3, 0, 3, 2, 0, 2, 0, 2, 2, 1, 2, 2, 0, 3, 0]) (gl (gf (gl (gf (gl (gf (gl (gf (gl g0 [3, 3, 3, 0, 3, 2, 0, 2, 0, 2, 2, 1, 2, 2, 5, 3, 3, 3]) (gl g0 [0, 3, 2, 0, 2, 0, 2, 2, 1, 2, 2, 5, 3, 3, 3])) [3, 3, 3, 0, 3, 2, 0, 2, 0, 2, 2, 1, 2, 2, 0, 3, 0]) (gl (gf (gl g0 [3, 3, 3, 0, 3, 2, 0, 2, 0, 2, 2, 1, 2, 2, 5, 3, 3, 3]) (gl g0 [0, 3, 2, 0, 2, 0, 2, 2, 1, 2, 2, 5, 3, 3, 3])) [0, 3, 2, 0, 2, 0, 2, 2, 1, 2, 2, 0, 3, 0])) [3, 3, 3, 0, 3, 2, 0, 2, 0, 2, 2, 1, 2, 2, 0, 3, 0]) (gl (gf (gl (gf (gl g0 [3, 3, 3, 0, 3, 2, 0, 2, 0, 2, 2, 1, 2, 2, 5, 3, 3, 3]) (gl g0 [0, 3, 2, 0, 2, 0, 2, 2, 1, 2, 2, 5, 3, 3, 3])) [3, 3, 3, 0, 3, 2, 0, 2, 0, 2, 2, 1, 2, 2, 0, 3, 0]) (gl (gf (gl g0 [3, 3, 3, 0, 3, 2, 0, 2, 0, 2, 2, 1, 2, 2, 5, 3, 3, 3]) (gl g0 [0, 3, 2, 0, 2, 0, 2, 2, 1, 2, 2, 5, 3, 3, 3])) [0, 3, 2, 0, 2, 0, 2, 2, 1, 2, 2, 0, 3, 0])) [0, 3, 2, 0, 2, 0, 2, 2, 1, 2, 2, 0, 3, 0])) [3, 3, 3, 0, 3, 2, 0, 2, 0, 2, 2, 1, 2, 2, 0, 3, 0]) (gl (gf (gl (gf (gl (gf (gl g0 [3, 3, 3, 0, 3, 2, 0, 2, 0, 2, 2, 1, 2, 2, 5, 3, 3, 3]) (gl g0 [0, 3, 2, 0, 2, 0, 2, 2, 1, 2, 2, 5, 3, 3, 3])) [3, 3, 3, 0, 3, 2, 0, 2, 0, 2, 2, 1, 2, 2, 0, 3, 0]) (gl (gf (gl g0 [3, 3, 3, 0, 3, 2, 0, 2, 0, 2, 2, 1, 2, 2, 5, 3, 3, 3]) (gl g0 [0, 3, 2, 0, 2, 0, 2, 2, 1, 2, 2, 5, 3, 3, 3])) [0, 3, 2, 0, 2, 0, 2, 2, 1, 2, 2, 0, 3, 0])) [3, 3, 3, 0, 3, 2, 0, 2, 0, 2, 2, 1, 2, 2, 0, 3, 0]) (gl (gf (gl (gf (gl g0 [3, 3, 3, 0, 3, 2, 0, 2, 0, 2, 2, 1, 2, 2, 5, 3, 3, 3]) (gl g0 [0, 3, 2, 0, 2, 0, 2, 2, 1, 2, 2, 5, 3, 3, 3])) [3, 3, 3, 0, 3, 2, 0, 2, 0, 2, 2, 1, 2, 2, 0, 3, 0]) (gl (gf (gl g0 [3, 3, 3, 0, 3, 2, 0, 2, 0, 2, 2, 1, 2, 2, 5, 3, 3, 3]) (gl g0 [0, 3, 2, 0, 2, 0, 2, 2, 1, 2, 2, 5, 3, 3, 3])) [0, 3, 2, 0, 2, 0, 2, 2, 1, 2, 2, 0, 3, 0])) [0, 3, 2, 0, 2, 0, 2, 2, 1, 2, 2, 0, 3, 0])) [0, 3, 2, 0, 2, 0, 2, 2, 1, 2, 2, 0, 3, 0])) [0, 3, 2, 0, 2, 0, 2, 2, 1, 2, 2, 0, 3, 0])) [0, 1, 1, 0, 1, 0, 2, 0, 3, 2, 0, 2, 0, 2, 2, 1, 2, 2, 3, 3, 3, 0, 3, 2, 0, 2, 0, 2, 2, 1, 2, 2, 0, 3, 0])
noncomputable def leE (P : Params) : Expr := retE (nth (stmtsOf (fdA P 260).body) 0)
noncomputable def cellSc (sc : Scope) : Scope := { sc with names := sc.names.map fun p => match p.2 with | .free => (p.1, .cell) | k => (p.1, k) }
structure EX where
  en : Addr
  it : Addr
  acc : Addr
  fr : Addr
  cl : Addr
  lst : Addr
  F : Addr
  h : Nat → Int
  t : Nat → Tok
noncomputable def leEnv (P : Params) (g : EX) : Env := { scope := cellSc (lcScope (leE P)), locals := g.fr, globals := 3, cells := [((sl [111, 114, 100, 101, 114]), g.cl)], qual := (sl [95, 108, 97, 119, 95, 108, 101, 97, 115, 116, 46, 60, 108, 111, 99, 97, 108, 115, 62, 46]), func := none, code := (fdA P 260).code, frame := some g.F, builtins := 0 }
noncomputable def cLT (P : Params) (g : EX) : Code := .compLoop (leE P) 0 (.ref g.en) (.ref g.acc) (leEnv P g)
noncomputable def enO2 (it : Addr) (k : Nat) (v : Value) : Obj := { cls := .type "enumerate", data := .fields (Array.mk [.none, .bool false, .ref it, .int (Int.ofNat k) 0, .none, v]) }
noncomputable def cellO (a : Addr) : Obj := { cls := .type "cell", data := .cell (some (.ref a)) }
noncomputable def oFr2 (g : EX) (x y : Value) : Obj := dictO [⟨g.h 0, .str (sl [107]) (g.t 0), x⟩, ⟨g.h 1, .str (sl [118]) (g.t 1), y⟩] 2
noncomputable def lrow (n L : Nat → Nat) : Nat → List Nat
  | 0 => []
  | k + 1 => n 0 :: rowF L 1 k
noncomputable def ltPre (g : EX) (n L : Nat → Nat) (t fa : Nat → Tok) (e k x tx y ty z tz : Nat) : List (Addr × Obj) :=
  [(g.en, enO2 g.it k (in3 x tx)), (g.it, itO g.lst k), (g.acc, oInts fa (lrow n L k) k), (g.fr, oFr2 g (in3 y ty) (in3 z tz)), (g.cl, cellO g.lst), (g.lst, oInts t (rowF n 0 6) e)]
noncomputable def ltOs (g : EX) (n : Nat → Nat) (t : Nat → Tok) (e k : Nat) (row : List Nat) (ws : List Nat) : List Obj :=
  [enO2 g.it (k + 1) (in3 (n k) (t k)), itO g.lst (k + 1), oInts (fun i => ws.getD (i + 1) 0) row (k + 1), oFr2 g (in3 k (ws.getD 0 0)) (in3 (n k) (t k)), cellO g.lst, oInts t (rowF n 0 6) e]
noncomputable def witLT (L : Leaf) : List Nat := iTok (entAt (osK L.os 3) 0).val :: (itemsOf (osK L.os 2)).map iTok
noncomputable def ltRaw (P : Params) (g : EX) (n M L : Nat → Nat) (t : Nat → Tok) (e k : Nat) : Spec :=
  .ask (Nat.beq (n k) (M k)) (.leaf witLT fun ws => ⟨.again (cLT P g), ltOs g n t e k (lrow n L k ++ [n k]) ws, []⟩) (.leaf witLT fun ws => ⟨.again (cLT P g), ltOs g n t e k (lrow n L k ++ [0]) ws, []⟩)
/-- min of the first m ints, known -/
noncomputable def rMinK (n : Nat → Nat) (m v : Nat) : RuleD where
  D := 340
  U := 3900
  code cd es := .builtin (idOf cd) ⟨[.ref (ad0 es)], []⟩
  objs _ es := [(ad0 es, oInts (tkI (ob0 es)) (rowF n 0 m) (epOf (ob0 es)))]
  spec cd es := ifId 7301742 cd (.leaf (fun _ => []) (fun ws => ⟨.res (.ok (.ret (.int (Int.ofNat v) (ws.getD 0 0)))), [oInts (tkI (ob0 es)) (rowF n 0 m) (epOf (ob0 es))], []⟩))
set_option maxHeartbeats 0
theorem mn_chk1 (P : Params) (b1 b2 : Bool) (a : Addr) (n : Nat → Nat) (t : Nat → Tok) (e N tk : Nat) : (ckMN P b1 b2 a n t e 1 N tk tgMN1).lhs = (ckMN P b1 b2 a n t e 1 N tk tgMN1).rhs := by
  cases b1 <;> kernel_rfl
theorem mn_chk2 (P : Params) (b1 b2 : Bool) (a : Addr) (n : Nat → Nat) (t : Nat → Tok) (e N tk : Nat) : (ckMN P b1 b2 a n t e 2 N tk tgMN2).lhs = (ckMN P b1 b2 a n t e 2 N tk tgMN2).rhs := by
  cases b1 <;> kernel_rfl
theorem mn_chk3 (P : Params) (b1 b2 : Bool) (a : Addr) (n : Nat → Nat) (t : Nat → Tok) (e N tk : Nat) : (ckMN P b1 b2 a n t e 3 N tk tgMN3).lhs = (ckMN P b1 b2 a n t e 3 N tk tgMN3).rhs := by
  cases b1 <;> kernel_rfl
theorem mn_chk4 (P : Params) (b1 b2 : Bool) (a : Addr) (n : Nat → Nat) (t : Nat → Tok) (e N tk : Nat) : (ckMN P b1 b2 a n t e 4 N tk tgMN4).lhs = (ckMN P b1 b2 a n t e 4 N tk tgMN4).rhs := by
  cases b1 <;> kernel_rfl
theorem mn_chk5 (P : Params) (b1 b2 : Bool) (a : Addr) (n : Nat → Nat) (t : Nat → Tok) (e N tk : Nat) : (ckMN P b1 b2 a n t e 5 N tk tgMN5).lhs = (ckMN P b1 b2 a n t e 5 N tk tgMN5).rhs := by
  cases b1 <;> kernel_rfl
theorem mn_chk6 (P : Params) (b1 b2 : Bool) (a : Addr) (n : Nat → Nat) (t : Nat → Tok) (e N tk : Nat) : (ckMN P b1 b2 a n t e 6 N tk tgMN6).lhs = (ckMN P b1 b2 a n t e 6 N tk tgMN6).rhs := by
  cases b1 <;> kernel_rfl
set_option maxHeartbeats 200000
theorem mn_raw (w : World) (a : Addr) (n : Nat → Nat) (t : Nat → Tok) (e : Nat) : ∀ m : Nat, 1 ≤ m → m ≤ 6 → CodeSpec pw0 w (ko w.params) 340 3900 (cMN a) [(a, oInts t (rowF n 0 m) e)] (mnRaw n t e m)
  | 0, h, _ => absurd h (by omega)
  | 1, _, _ => spec_of w (rulesL_ok _ _ _) fun b1 b2 N tk => mn_chk1 w.params b1 b2 a n t e N tk
  | 2, _, _ => spec_of w (rulesL_ok _ _ _) fun b1 b2 N tk => mn_chk2 w.params b1 b2 a n t e N tk
  | 3, _, _ => spec_of w (rulesL_ok _ _ _) fun b1 b2 N tk => mn_chk3 w.params b1 b2 a n t e N tk
  | 4, _, _ => spec_of w (rulesL_ok _ _ _) fun b1 b2 N tk => mn_chk4 w.params b1 b2 a n t e N tk
  | 5, _, _ => spec_of w (rulesL_ok _ _ _) fun b1 b2 N tk => mn_chk5 w.params b1 b2 a n t e N tk
  | 6, _, _ => spec_of w (rulesL_ok _ _ _) fun b1 b2 N tk => mn_chk6 w.params b1 b2 a n t e N tk
  | m + 7, _, h => absurd h (by omega)
theorem rMinK_ok (w : World) {n : Nat → Nat} {m v : Nat} (h1 : 1 ≤ m) (h6 : m ≤ 6) (hv : n (minI n (m - 1) 1 0) = v) : RuleD.Ok pw0 w (ko w.params) (rMinK n m v) := by
  intro cd es he
  refine cast_spec he ?_
  intro A R s hA hD hU H hw
  unfold rMinK ifId at hw ⊢
  dsimp only at hw ⊢
  split at hw
  · rename_i hid
    have hid := eqLit_is "min" (by decide +kernel) hid
    rw [hid, ← minB_is]
    refine mn_raw w (ad0 es) n (tkI (ob0 es)) (epOf (ob0 es)) m h1 h6 A R s hA hD hU H (minT_of _ _ _ fun ws hp tk E => ?_)
    rw [hv]
    rw [hv] at E
    exact hw [tkI (ob0 es) (minI n (m - 1) 1 0)] hp tk E
  · cases hw
noncomputable def lcElt (e : Expr) : Expr := match e with
  | .ListComp x _ _ _ => x
  | _ => default
noncomputable def lcPos (e : Expr) : Pos := match e with
  | .ListComp _ _ _ p => p
  | _ => default
noncomputable def lcTgt (e : Expr) : Expr := match e with
  | .ListComp _ gs _ _ => match gs with
    | c :: _ => c.target
    | [] => default
  | _ => default
noncomputable def lcIter (e : Expr) : Expr := match e with
  | .ListComp _ gs _ _ => match gs with
    | c :: _ => c.iter
    | [] => default
  | _ => default
noncomputable def tuElts (e : Expr) : List Expr := match e with
  | .Tuple l _ _ => l
  | _ => []
noncomputable def tuX (e : Expr) : Nat := match e with
  | .Tuple _ x _ => x
  | _ => 0
noncomputable def tuPos (e : Expr) : Pos := match e with
  | .Tuple _ _ p => p
  | _ => default
theorem leE_is (P : Params) : leE P = .ListComp (lcElt (leE P)) [⟨lcTgt (leE P), lcIter (leE P), [], 0⟩] (lcScope (leE P)) (lcPos (leE P)) := by kernel_rfl
theorem leT_is (P : Params) : lcTgt (leE P) = .Tuple (tuElts (lcTgt (leE P))) (tuX (lcTgt (leE P))) (tuPos (lcTgt (leE P))) := by kernel_rfl
noncomputable def appB : String := S.litE [S.mk8 108 rfl, S.mk8 105 rfl, S.mk8 115 rfl, S.mk8 116 rfl, S.mk8 46 rfl, S.mk8 97 rfl, S.mk8 112 rfl, S.mk8 112 rfl, S.mk8 101 rfl, S.mk8 110 rfl, S.mk8 100 rfl] [108, 105, 115, 116, 46, 97, 112, 112, 101, 110, 100] rfl rfl
theorem appB_is : appB = "list.append" := eqLit_is "list.append" (n := 122627580202994350266018413) (by decide +kernel) (by kernel_rfl)
noncomputable def enxB : String := S.litE [S.mk8 101 rfl, S.mk8 110 rfl, S.mk8 117 rfl, S.mk8 109 rfl, S.mk8 101 rfl, S.mk8 114 rfl, S.mk8 97 rfl, S.mk8 116 rfl, S.mk8 101 rfl, S.mk8 46 rfl, S.mk8 95 rfl, S.mk8 95 rfl, S.mk8 110 rfl, S.mk8 101 rfl, S.mk8 120 rfl, S.mk8 116 rfl, S.mk8 95 rfl, S.mk8 95 rfl] [101, 110, 117, 109, 101, 114, 97, 116, 101, 46, 95, 95, 110, 101, 120, 116, 95, 95] rfl rfl
theorem enxB_is : enxB = "enumerate.__next__" := eqLit_is "enumerate.__next__" (n := 8395602706694450420892867620059520941059942) (by decide +kernel) (by kernel_rfl)
/-- a turn of a comprehension, after the item has been drawn -/
noncomputable def restZ (P : Params) (g : EX) (v : Value) : Sem Fin :=
  ZFast.zw17772580674575903948 (lcTgt (leE P)) (leEnv P g) v >>= fun _ => (evZ (lcElt (leE P)) (leEnv P g) >>= fun x => call (.builtin appB) [.ref g.acc, x] >>= fun _ => pure ()) >>= fun _ => again (cLT P g)
noncomputable def restR (P : Params) (g : EX) (v : Value) : Sem Fin :=
  assign (lcTgt (leE P)) (leEnv P g) v >>= fun _ => (eval (lcElt (leE P)) (leEnv P g) >>= fun x => call (.builtin "list.append") [.ref g.acc, x] >>= fun _ => pure ()) >>= fun _ => again (cLT P g)
theorem restZ_is (P : Params) (g : EX) (v : Value) : restZ P g v = restR P g v := by
  unfold restZ restR
  rw [appB_is, evZ_is, ← ZFast.ze17772580674575903948]
noncomputable def noteK (env : Env) (x : Value) : Sem Unit := do noteFrame x env; theTreesLotGoes x
noncomputable def restT (P : Params) (g : EX) (v : Value) : Sem Fin := (restZ P g v).onRaise (noteK (leEnv P g))
theorem den_lc {E elt tgt iter : Expr} {sc : Scope} {pos : Pos} (it acc : Value) (env : Env) (hE : E = .ListComp elt [⟨tgt, iter, [], 0⟩] sc pos) :
    denote table (.compLoop E 0 it acc env) = (standAt iter.pos >>= fun _ => pyNext it >>= fun r => match r with
      | none => pure (.done .next)
      | some v => letOwnedTupleGo tgt it v >>= fun _ => assign tgt env v >>= fun _ =>
        (eval elt env >>= fun x => call (.builtin "list.append") [acc, x] >>= fun _ => pure ()) >>= fun _ => again (.compLoop E 0 it acc env)).onRaise (noteK env) := by
  subst hE
  show (compTurn _ _ _ _ _).onRaise _ = _
  rw [compTurn_list1]
  rfl
theorem raw_step {α β : Type} {M : Model} {A : Around} {c : Code} {Γ : PySem.Ctx} {t : Sem α} {f : α → Sem β} {Q1 : α → Shared → Prop} {Q : β → Pos → Shared → Prop} {E : Value → Pos → Shared → Prop} {p : Pos} {s : Shared}
    (h : wpAny M (A.under c) t Q1 (fun _ _ => False) s) (hc : Γ.code = c) (hΓ : Γ.Below A) (hf : ∀ a p' s', Q1 a s' → Sem.wp M Γ (f a) Q E p' s') : Sem.wp M Γ (t >>= f) Q E p s := by
  rw [Sem.wp_bind']
  exact Sem.wp_mono M Γ t (fun a p' s' h' => hf a p' s' h') (fun _ _ _ h' => h'.elim) p s (h Γ p (hc ▸ hΓ.in))
noncomputable def enOut (it a : Addr) (k : Nat) (v : Value) : Obj := { cls := .type "enumerate", data := .fields (Array.mk [.int (Int.ofNat a) 0, .bool false, .ref it, .int (Int.ofNat k) 0, .none, v]) }
noncomputable def ltPreF (g : EX) (n L : Nat → Nat) (t fa : Nat → Tok) (e k : Nat) (lv : Value) (fo : Obj) : List (Addr × Obj) :=
  [(g.en, enO2 g.it k lv), (g.it, itO g.lst k), (g.acc, oInts fa (lrow n L k) k), (g.fr, fo), (g.cl, cellO g.lst), (g.lst, oInts t (rowF n 0 6) e)]
noncomputable def enOs (g : EX) (n L : Nat → Nat) (t fa : Nat → Tok) (e k : Nat) (fo : Obj) (eo : Obj) : List Obj :=
  [eo, itO g.lst (k + 1), oInts fa (lrow n L k) k, fo, cellO g.lst, oInts t (rowF n 0 6) e]
noncomputable def enF (g : EX) (n L : Nat → Nat) (t fa : Nat → Tok) (e k : Nat) (fo : Obj) (ws : List Nat) : Leaf :=
  ⟨.res (.ok (.ret (.ref (ws.getD 0 0)))), enOs g n L t fa e k fo (enOut g.it (ws.getD 0 0) (k + 1) (in3 (n k) (t k))), [(ws.getD 0 0, oTup [in3 k (ws.getD 1 0), in3 (n k) (t k)])]⟩
noncomputable def witEN (L : Leaf) : List Nat := [adK L.ns 0, tkI (obK L.ns 0) 0]
noncomputable def tgENX : Tg := (gl g0 [0, 1, 0, 1, 2, 0, 2, 0, 2, 2, 6, 2, 2, 1, 1, 1, 1, 1, 1, 1, 1, 1, 1, 1, 1, 1, 1, 6])
noncomputable abbrev cEN (g : EX) : Code := .call (.builtin enxB) ⟨[.ref g.en], []⟩
noncomputable abbrev ckEN2 (P : Params) (b1 b2 : Bool) (g : EX) (n L : Nat → Nat) (t fa : Nat → Tok) (e k : Nat) (lv : Value) (fo : Obj) (N tk : Nat) : Chk :=
  chkOf P b1 b2 [] (cEN g) 330 3800 (ltPreF g n L t fa e k lv fo) N tk tgENX (.leaf witEN (enF g n L t fa e k fo))
/-- the ledger when an item has been drawn -/
noncomputable def enT (g : EX) (n L : Nat → Nat) (t fa : Nat → Tok) (e k : Nat) (lv : Value) (fo : Obj) (a u : Nat) : LT :=
  insAll (setAll (mkT (ltPreF g n L t fa e k lv fo)) [0, 1, 2, 3, 4, 5] (ltPreF g n L t fa e k lv fo) (enOs g n L t fa e k fo (enO2 g.it (k + 1) (in3 (n k) (t k))))) 6 [(a, oTup [in3 k u, in3 (n k) (t k)])]
noncomputable def ckRest (P : Params) (b1 b2 : Bool) (rules : List RuleD) (g : EX) (n L : Nat → Nat) (t fa : Nat → Tok) (e k : Nat) (lv : Value) (fo : Obj) (a u N tk : Nat) (tags : Tg) (sp : Spec) : Chk :=
  go (sim2 (SC0 P b1 b2 rules 6) 1000000 (cLT P g) false .base 320 3700 (restT P g (.ref a)) (enT g n L t fa e k lv fo a u) 7 (Nat.add N 16) tk tags) sp
noncomputable def rulesT (n M : Nat → Nat) (k : Nat) : List RuleD := [rMinK n (k + 1) (M k), rEqA (n k) (M k)]
noncomputable def tgLT : Tg := (gl (gf (gl g0 [4, 0, 3, 0, 3, 3, 3, 2]) (gl g0 [0, 3, 0, 3, 3, 3, 2])) [7, 7, 7, 0, 7, 0, 8, 8, 0, 8, 0, 8, 8, 7, 8, 8, 8, 0, 8, 0, 8, 8, 7, 8, 8, 8, 0, 8, 0, 8, 8, 7, 8, 8, 10, 4, 4, 4, 4, 4, 0, 0, 5, 4, 0, 0, 6, 6, 6, 0, 6, 0, 11, 11, 11, 11, 11, 6, 0, 3, 1, 11, 0, 4, 0])
noncomputable def hK (P : Params) (x : Str) : Int := ZFast.zw12210062019545310541 (P.strHash x.cps)
noncomputable def gx0 (P : Params) (g : EX) (ws : List Nat) : EX := ⟨g.en, g.it, g.acc, g.fr, g.cl, g.lst, g.F, fun i => match i with | 0 => hK P (sl [107]) | _ => hK P (sl [118]), fun i => ws.getD (2 + i) 0⟩
noncomputable def witL0 (L : Leaf) : List Nat := [iTok (entAt (osK L.os 3) 0).val, tkI (osK L.os 2) 0, sTok (entAt (osK L.os 3) 0).key, sTok (entAt (osK L.os 3) 1).key]
noncomputable def lt0Raw (P : Params) (g : EX) (n M : Nat → Nat) (t : Nat → Tok) (e : Nat) : Spec :=
  .ask (Nat.beq (n 0) (M 0)) (.leaf witL0 fun ws => ⟨.again (cLT P g), ltOs (gx0 P g ws) n t e 0 [n 0] ws, []⟩) (.leaf witL0 fun ws => ⟨.again (cLT P g), ltOs (gx0 P g ws) n t e 0 [0] ws, []⟩)
noncomputable abbrev ckLT0 (P : Params) (b1 b2 : Bool) (g : EX) (n M L : Nat → Nat) (t fa : Nat → Tok) (e : Nat) (a u N tk : Nat) : Chk :=
  ckRest P b1 b2 (rulesT n M 0) g n L t fa e 0 .none (dictO [] 0) a u N tk tgLT (lt0Raw P g n M t e)
noncomputable abbrev ckLT (P : Params) (b1 b2 : Bool) (g : EX) (n M L : Nat → Nat) (t fa : Nat → Tok) (e k : Nat) (lv : Value) (fo : Obj) (a u N tk : Nat) : Chk :=
  ckRest P b1 b2 (rulesT n M k) g n L t fa e k lv fo a u N tk tgLT (ltRaw P g n M L t e k)
set_option maxHeartbeats 0
theorem en_chk0x (P : Params) (b1 b2 : Bool) (g : EX) (n L : Nat → Nat) (t fa : Nat → Tok) (e x tx : Nat) (fo : Obj) (N tk : Nat) : (ckEN2 P b1 b2 g n L t fa e 0 .none fo N tk).lhs = (ckEN2 P b1 b2 g n L t fa e 0 .none fo N tk).rhs := by
  cases b1 <;> kernel_rfl
theorem lt_chk0 (P : Params) (b1 b2 : Bool) (g : EX) (n M L : Nat → Nat) (t fa : Nat → Tok) (e x tx y ty z tz a u N tk : Nat) : (ckLT0 P b1 b2 g n M L t fa e a u N tk).lhs = (ckLT0 P b1 b2 g n M L t fa e a u N tk).rhs := by
  cases b1 <;> kernel_rfl
theorem en_chk1x (P : Params) (b1 b2 : Bool) (g : EX) (n L : Nat → Nat) (t fa : Nat → Tok) (e x tx : Nat) (fo : Obj) (N tk : Nat) : (ckEN2 P b1 b2 g n L t fa e 1 (in3 x tx) fo N tk).lhs = (ckEN2 P b1 b2 g n L t fa e 1 (in3 x tx) fo N tk).rhs := by
  cases b1 <;> kernel_rfl
theorem lt_chk1 (P : Params) (b1 b2 : Bool) (g : EX) (n M L : Nat → Nat) (t fa : Nat → Tok) (e x tx y ty z tz a u N tk : Nat) : (ckLT P b1 b2 g n M L t fa e 1 (in3 x tx) (oFr2 g (in3 y ty) (in3 z tz)) a u N tk).lhs = (ckLT P b1 b2 g n M L t fa e 1 (in3 x tx) (oFr2 g (in3 y ty) (in3 z tz)) a u N tk).rhs := by
  cases b1 <;> kernel_rfl
theorem en_chk2x (P : Params) (b1 b2 : Bool) (g : EX) (n L : Nat → Nat) (t fa : Nat → Tok) (e x tx : Nat) (fo : Obj) (N tk : Nat) : (ckEN2 P b1 b2 g n L t fa e 2 (in3 x tx) fo N tk).lhs = (ckEN2 P b1 b2 g n L t fa e 2 (in3 x tx) fo N tk).rhs := by
  cases b1 <;> kernel_rfl
theorem lt_chk2 (P : Params) (b1 b2 : Bool) (g : EX) (n M L : Nat → Nat) (t fa : Nat → Tok) (e x tx y ty z tz a u N tk : Nat) : (ckLT P b1 b2 g n M L t fa e 2 (in3 x tx) (oFr2 g (in3 y ty) (in3 z tz)) a u N tk).lhs = (ckLT P b1 b2 g n M L t fa e 2 (in3 x tx) (oFr2 g (in3 y ty) (in3 z tz)) a u N tk).rhs := by
  cases b1 <;> kernel_rfl
theorem en_chk3x (P : Params) (b1 b2 : Bool) (g : EX) (n L : Nat → Nat) (t fa : Nat → Tok) (e x tx : Nat) (fo : Obj) (N tk : Nat) : (ckEN2 P b1 b2 g n L t fa e 3 (in3 x tx) fo N tk).lhs = (ckEN2 P b1 b2 g n L t fa e 3 (in3 x tx) fo N tk).rhs := by
  cases b1 <;> kernel_rfl
theorem lt_chk3 (P : Params) (b1 b2 : Bool) (g : EX) (n M L : Nat → Nat) (t fa : Nat → Tok) (e x tx y ty z tz a u N tk : Nat) : (ckLT P b1 b2 g n M L t fa e 3 (in3 x tx) (oFr2 g (in3 y ty) (in3 z tz)) a u N tk).lhs = (ckLT P b1 b2 g n M L t fa e 3 (in3 x tx) (oFr2 g (in3 y ty) (in3 z tz)) a u N tk).rhs := by
  cases b1 <;> kernel_rfl
theorem en_chk4x (P : Params) (b1 b2 : Bool) (g : EX) (n L : Nat → Nat) (t fa : Nat → Tok) (e x tx : Nat) (fo : Obj) (N tk : Nat) : (ckEN2 P b1 b2 g n L t fa e 4 (in3 x tx) fo N tk).lhs = (ckEN2 P b1 b2 g n L t fa e 4 (in3 x tx) fo N tk).rhs := by
  cases b1 <;> kernel_rfl
theorem lt_chk4 (P : Params) (b1 b2 : Bool) (g : EX) (n M L : Nat → Nat) (t fa : Nat → Tok) (e x tx y ty z tz a u N tk : Nat) : (ckLT P b1 b2 g n M L t fa e 4 (in3 x tx) (oFr2 g (in3 y ty) (in3 z tz)) a u N tk).lhs = (ckLT P b1 b2 g n M L t fa e 4 (in3 x tx) (oFr2 g (in3 y ty) (in3 z tz)) a u N tk).rhs := by
  cases b1 <;> kernel_rfl
theorem en_chk5x (P : Params) (b1 b2 : Bool) (g : EX) (n L : Nat → Nat) (t fa : Nat → Tok) (e x tx : Nat) (fo : Obj) (N tk : Nat) : (ckEN2 P b1 b2 g n L t fa e 5 (in3 x tx) fo N tk).lhs = (ckEN2 P b1 b2 g n L t fa e 5 (in3 x tx) fo N tk).rhs := by
  cases b1 <;> kernel_rfl
theorem lt_chk5 (P : Params) (b1 b2 : Bool) (g : EX) (n M L : Nat → Nat) (t fa : Nat → Tok) (e x tx y ty z tz a u N tk : Nat) : (ckLT P b1 b2 g n M L t fa e 5 (in3 x tx) (oFr2 g (in3 y ty) (in3 z tz)) a u N tk).lhs = (ckLT P b1 b2 g n M L t fa e 5 (in3 x tx) (oFr2 g (in3 y ty) (in3 z tz)) a u N tk).rhs := by
  cases b1 <;> kernel_rfl
set_option maxHeartbeats 200000
theorem enx_spec (w : World) (g : EX) (n L : Nat → Nat) (t fa : Nat → Tok) (e x tx : Nat) (fo : Obj) : ∀ k : Nat, 1 ≤ k → k ≤ 5 → CodeSpec pw0 w (ko w.params) 330 3800 (cEN g) (ltPreF g n L t fa e k (in3 x tx) fo) (.leaf witEN (enF g n L t fa e k fo))
  | 0, h, _ => absurd h (by omega)
  | 1, _, _ => spec_of w (no_rules w _) fun b1 b2 N tk => en_chk1x w.params b1 b2 g n L t fa e x tx fo N tk
  | 2, _, _ => spec_of w (no_rules w _) fun b1 b2 N tk => en_chk2x w.params b1 b2 g n L t fa e x tx fo N tk
  | 3, _, _ => spec_of w (no_rules w _) fun b1 b2 N tk => en_chk3x w.params b1 b2 g n L t fa e x tx fo N tk
  | 4, _, _ => spec_of w (no_rules w _) fun b1 b2 N tk => en_chk4x w.params b1 b2 g n L t fa e x tx fo N tk
  | 5, _, _ => spec_of w (no_rules w _) fun b1 b2 N tk => en_chk5x w.params b1 b2 g n L t fa e x tx fo N tk
  | k + 6, _, h => absurd h (by omega)
theorem enx_spec0 (w : World) (g : EX) (n L : Nat → Nat) (t fa : Nat → Tok) (e : Nat) (fo : Obj) : CodeSpec pw0 w (ko w.params) 330 3800 (cEN g) (ltPreF g n L t fa e 0 .none fo) (.leaf witEN (enF g n L t fa e 0 fo)) :=
  spec_of w (no_rules w _) fun b1 b2 N tk => en_chk0x w.params b1 b2 g n L t fa e 0 0 fo N tk
/-- the first object turned once more -/
theorem ends_first {kt : Addr → Obj → Prop} {a : Addr} {pre : List Addr} {h₀ h h2 : Heap} {e e' : End} {o o' : Obj} {os : List Obj} {ns : List (Addr × Obj)} (nd : (a :: pre).Nodup) (hk : ∀ b o, kt b o → b ≠ a) (ha : ∃ o, h₀.get? a = some o)
    (E : Ends kt (a :: pre) h₀ h ⟨e, o :: os, ns⟩) (hs : Heap.SameBut a h h2) (hn : h2.get? a = some o') : Ends kt (a :: pre) h₀ h2 ⟨e', o' :: os, ns⟩ := by
  refine ⟨fun b ob q => (hs.2 b (hk b ob q)).trans (E.old b ob q), by have := E.len; simpa using this, fun k b ob e1 e2 => ?_, fun x hx => ?_, E.nd, fun b ob q hb => (hs.2 b fun q => hb (q ▸ List.mem_cons_self)).trans (E.keep b ob q hb)⟩
  · cases k with
    | zero =>
      simp only [List.getElem?_cons_zero, Option.some.injEq] at e1 e2
      subst e1; subst e2
      exact hn
    | succ k =>
      have hne : b ≠ a := fun q => by
        simp only [List.getElem?_cons_succ] at e1
        have := List.mem_of_getElem? e1
        rw [q] at this
        exact (List.nodup_cons.mp nd).1 this
      exact (hs.2 b hne).trans (E.own (k + 1) b ob (by simpa using e1) (by simpa using e2))
  · obtain ⟨y1, y2, y3⟩ := E.news x hx
    refine ⟨(hs.2 x.1 fun q => ?_).trans y1, y2, y3⟩
    obtain ⟨o1, e1⟩ := ha
    rw [q, e1] at y2
    cases y2
theorem lt_manual (w : World) (g : EX) (n L : Nat → Nat) (t fa : Nat → Tok) (e k : Nat) (lv : Value) (fo : Obj) {rules : List RuleD} (hr : ∀ r ∈ rules, RuleD.Ok pw0 w (ko w.params) r) {tags : Tg} {sp : Spec}
    (hEN : CodeSpec pw0 w (ko w.params) 330 3800 (cEN g) (ltPreF g n L t fa e k lv fo) (.leaf witEN (enF g n L t fa e k fo)))
    (chk : ∀ b1 b2 a u N tk, (ckRest w.params b1 b2 rules g n L t fa e k lv fo a u N tk tags sp).lhs = (ckRest w.params b1 b2 rules g n L t fa e k lv fo a u N tk tags sp).rhs) :
    CodeSpec pw0 w (ko w.params) 320 3700 (cLT w.params g) (ltPreF g n L t fa e k lv fo) sp := by
  intro A R s hA hD hU H hw
  have hden := den_lc (.ref g.en) (.ref g.acc) (leEnv w.params g) (leE_is w.params)
  refine y_code _ _ A R s (cLT w.params g) ?_
  have hden2 : denote table (cLT w.params g) = (standAt (lcIter (leE w.params)).pos >>= fun _ => pyNext (.ref g.en) >>= fun r => match r with
      | none => pure (.done .next)
      | some v => letOwnedTupleGo (lcTgt (leE w.params)) (.ref g.en) v >>= fun _ => restR w.params g v).onRaise (noteK (leEnv w.params g)) := hden
  rw [hden2]
  intro Γ p hc hΓ
  rw [Sem.wp_onRaise]
  have hAu := units_le (cLT w.params g)
  have hAd := weight_le (cLT w.params g)
  have he : s.heap.get? g.en = some (enO2 g.it k lv) := (H.own _ List.mem_cons_self).1
  have hT : s.TypeIs (.ref g.en) "enumerate" := ⟨_, he, rfl⟩
  refine raw_step (Q1 := fun _ s' => s' = s) (wpAny_standAt rfl) hc hΓ fun _ p1 s1 e1 => ?_
  rw [e1]
  refine raw_step (Q1 := fun o s' => ∃ (ws : List Nat) (h : Heap) (tk : Nat), o = some (.ref (ws.getD 0 0)) ∧ s' = ⟨h, s.gens, s.drawn, tk, s.os⟩ ∧ Ends (ko w.params) ((ltPreF g n L t fa e k lv fo).map (·.1)) s.heap h (enF g n L t fa e k fo ws)) ?_ hc hΓ fun o p2 s2 h2 => ?_
  · unfold pyNext
    refine wpAny_bind (wpAny_attempt (wpAny_callSpecial?_slot (name := Str.ofString "__next__") hT F.slot_enumerate_next (wpAny_call ?_)))
    rw [← enxB_is]
    refine hEN (A.under (cLT w.params g)) _ s hA ?_ ?_ H fun ws h tk E => ?_
    · show A.depth + (cLT w.params g).weight ≤ 330
      have : wt (cLT w.params g) = 1 := rfl
      omega
    · show A.units + (cLT w.params g).cUnits ≤ 3800
      omega
    · exact wpAny_pure ⟨ws, h, tk, rfl, rfl, E⟩
  · obtain ⟨ws, h, tk, rfl, rfl, E⟩ := h2
    have heo : h.get? g.en = some (enOut g.it (ws.getD 0 0) (k + 1) (in3 (n k) (t k))) := E.own 0 g.en _ rfl rfl
    show Sem.wp _ Γ (letOwnedTupleGo (lcTgt (leE w.params)) (.ref g.en) (.ref (ws.getD 0 0)) >>= fun _ => restR w.params g (.ref (ws.getD 0 0))) _ _ p2 _
    refine raw_step (Q1 := fun _ s' => ∃ h3, s' = ⟨h3, s.gens, s.drawn, tk, s.os⟩ ∧ h3.get? g.en = some (enO2 g.it (k + 1) (in3 (n k) (t k))) ∧ Heap.SameBut g.en h h3) ?_ hc hΓ fun _ p3 s3 h3 => ?_
    · rw [leT_is]
      exact wpAny_letOwnedTupleGo_enum (i := Int.ofNat (k + 1)) (item := in3 (n k) (t k)) (it := g.it) heo fun h' a1 a2 => ⟨h', rfl, a1, a2⟩
    · obtain ⟨h3, rfl, he3, hs3⟩ := h3
      have E3 : Ends (ko w.params) ((ltPreF g n L t fa e k lv fo).map (·.1)) s.heap h3 ⟨.res (.ok .next), enOs g n L t fa e k fo (enO2 g.it (k + 1) (in3 (n k) (t k))), [(ws.getD 0 0, oTup [in3 k (ws.getD 1 0), in3 (n k) (t k)])]⟩ :=
        ends_first H.nd (fun b o q q2 => by rw [q2] at q; exact (H.own _ List.mem_cons_self).2 o q) ⟨_, he⟩ E hs3 he3
      have hb := pat_is w.params
      have O := SC0_ok w (w.params.followText "special-get-raises") (w.params.followText "comprehension-iter-twice") rules 6 hb
      have hsz : 16 ≤ h3.objs.size := size0 w.params h3 fun b o q => E3.old b o q
      have gd := Chk.good _ (chk (w.params.followText "special-get-raises") (w.params.followText "comprehension-iter-twice") (ws.getD 0 0) (ws.getD 1 0) (h3.objs.size - 16) tk)
      have hN : Nat.add (h3.objs.size - 16) 16 = h3.objs.size := Nat.sub_add_cancel hsz
      unfold ckRest at gd
      rw [hN] at gd
      have I0 : Inv 6 ⟨pw0, w, ko w.params, (ltPreF g n L t fa e k lv fo).map (fun x : Addr × Obj => x.1), s.heap, A, R, s.gens, s.drawn, s.os⟩ s.heap (mkT (ltPreF g n L t fa e k lv fo)) 6 s.heap.objs.size := inv_start H
      have I1 := I0.after (js := [0, 1, 2, 3, 4, 5]) (es := ltPreF g n L t fa e k lv fo) (by decide) rfl E3
      have SS := sim_sound2 (S := SC0 w.params (w.params.followText "special-get-raises") (w.params.followText "comprehension-iter-twice") rules 6) (V := ⟨pw0, w, ko w.params, (ltPreF g n L t fa e k lv fo).map (fun x : Addr × Obj => x.1), s.heap, A, R, s.gens, s.drawn, s.os⟩) O rfl (fun _ _ e => e) hr 1000000
      have z := SS _ _ (.base) _ _ _ _ _ _ _ _ _ h3 gd hw ⟨I1, ⟨hA, hD, hU⟩, trivial⟩
      have z2 := z Γ p3 hc hΓ
      have er : tailOf false (restT w.params g (.ref (ws.getD 0 0))) = (restR w.params g (.ref (ws.getD 0 0))).onRaise (noteK (leEnv w.params g)) := by
        show restT w.params g (.ref (ws.getD 0 0)) = _
        unfold restT
        rw [restZ_is]
      rw [er, Sem.wp_onRaise] at z2
      exact z2
/-- what is known of the least ones: M the minima, L the row that _law_least makes -/
structure LOk (n M L : Nat → Nat) : Prop where
  m : ∀ k < 6, n (minI n k 1 0) = M k
  z : M 0 = n 0
  l : ∀ k < 6, L k = match Nat.beq (n k) (M k) with | true => n k | false => 0
theorem rulesT_ok (w : World) {n M L : Nat → Nat} (O : LOk n M L) {k : Nat} (hk : k < 6) : ∀ r ∈ rulesT n M k, RuleD.Ok pw0 w (ko w.params) r := by
  intro r hr
  simp only [rulesT, List.mem_cons, List.not_mem_nil, or_false] at hr
  rcases hr with rfl | rfl
  · exact rMinK_ok w (by omega) (by omega) (O.m k hk)
  · exact rEqA_ok _ _ _ _ _
theorem lt_raw (w : World) (g : EX) {n M L : Nat → Nat} (O : LOk n M L) (t fa : Nat → Tok) (e x tx y ty z tz : Nat) : ∀ k : Nat, 1 ≤ k → k ≤ 5 → CodeSpec pw0 w (ko w.params) 320 3700 (cLT w.params g) (ltPre g n L t fa e k x tx y ty z tz) (ltRaw w.params g n M L t e k)
  | 0, h, _ => absurd h (by omega)
  | 1, _, _ => lt_manual w g n L t fa e 1 (in3 x tx) (oFr2 g (in3 y ty) (in3 z tz)) (rulesT_ok w O (by omega)) (enx_spec w g n L t fa e x tx _ 1 (by omega) (by omega)) fun b1 b2 a u N tk => lt_chk1 w.params b1 b2 g n M L t fa e x tx y ty z tz a u N tk
  | 2, _, _ => lt_manual w g n L t fa e 2 (in3 x tx) (oFr2 g (in3 y ty) (in3 z tz)) (rulesT_ok w O (by omega)) (enx_spec w g n L t fa e x tx _ 2 (by omega) (by omega)) fun b1 b2 a u N tk => lt_chk2 w.params b1 b2 g n M L t fa e x tx y ty z tz a u N tk
  | 3, _, _ => lt_manual w g n L t fa e 3 (in3 x tx) (oFr2 g (in3 y ty) (in3 z tz)) (rulesT_ok w O (by omega)) (enx_spec w g n L t fa e x tx _ 3 (by omega) (by omega)) fun b1 b2 a u N tk => lt_chk3 w.params b1 b2 g n M L t fa e x tx y ty z tz a u N tk
  | 4, _, _ => lt_manual w g n L t fa e 4 (in3 x tx) (oFr2 g (in3 y ty) (in3 z tz)) (rulesT_ok w O (by omega)) (enx_spec w g n L t fa e x tx _ 4 (by omega) (by omega)) fun b1 b2 a u N tk => lt_chk4 w.params b1 b2 g n M L t fa e x tx y ty z tz a u N tk
  | 5, _, _ => lt_manual w g n L t fa e 5 (in3 x tx) (oFr2 g (in3 y ty) (in3 z tz)) (rulesT_ok w O (by omega)) (enx_spec w g n L t fa e x tx _ 5 (by omega) (by omega)) fun b1 b2 a u N tk => lt_chk5 w.params b1 b2 g n M L t fa e x tx y ty z tz a u N tk
  | k + 6, _, h => absurd h (by omega)
theorem rowF_snoc (f : Nat → Nat) : ∀ (k i : Nat), rowF f i k ++ [f (i + k)] = rowF f i (k + 1)
  | 0, i => rfl
  | k + 1, i => by
    show f i :: (rowF f (i + 1) k ++ [f (i + (k + 1))]) = f i :: rowF f (i + 1) (k + 1)
    rw [show i + (k + 1) = i + 1 + k from by omega, rowF_snoc f k (i + 1)]
theorem lrow_snoc (n L : Nat → Nat) {k : Nat} (h : 1 ≤ k) : lrow n L k ++ [L k] = lrow n L (k + 1) := by
  obtain ⟨j, rfl⟩ : ∃ j, k = j + 1 := ⟨k - 1, by omega⟩
  show n 0 :: (rowF L 1 j ++ [L (j + 1)]) = n 0 :: rowF L 1 (j + 1)
  have := rowF_snoc L j 1
  rw [Nat.add_comm 1 j] at this
  rw [this]
theorem lt_spec (w : World) (g : EX) {n M L : Nat → Nat} (O : LOk n M L) (t fa : Nat → Tok) (e x tx y ty z tz : Nat) {k : Nat} (h1 : 1 ≤ k) (h5 : k ≤ 5) :
    CodeSpec pw0 w (ko w.params) 320 3700 (cLT w.params g) (ltPre g n L t fa e k x tx y ty z tz) (.leaf witLT fun ws => ⟨.again (cLT w.params g), ltOs g n t e k (lrow n L (k + 1)) ws, []⟩) := by
  refine (lt_raw w g O t fa e x tx y ty z tz k h1 h5).mono fun V hw => ?_
  have hl := O.l k (by omega)
  refine ⟨fun q => ?_, fun q => ?_⟩
  · have e0 : lrow n L k ++ [n k] = lrow n L (k + 1) := by rw [← lrow_snoc n L h1, hl, q]
    rw [e0]
    exact hw
  · have e0 : lrow n L k ++ [0] = lrow n L (k + 1) := by rw [← lrow_snoc n L h1, hl, q]
    rw [e0]
    exact hw
theorem lt_spec0 (w : World) (g : EX) {n M L : Nat → Nat} (O : LOk n M L) (t fa : Nat → Tok) (e : Nat) :
    CodeSpec pw0 w (ko w.params) 320 3700 (cLT w.params g) (ltPreF g n L t fa e 0 .none (dictO [] 0)) (.leaf witL0 fun ws => ⟨.again (cLT w.params g), ltOs (gx0 w.params g ws) n t e 0 (lrow n L 1) ws, []⟩) := by
  refine (lt_manual w g n L t fa e 0 .none (dictO [] 0) (rulesT_ok w O (by omega)) (enx_spec0 w g n L t fa e _) fun b1 b2 a u N tk => lt_chk0 w.params b1 b2 g n M L t fa e 0 0 0 0 0 0 a u N tk).mono fun V hw => ?_
  have hz := O.z
  refine ⟨fun q => hw, fun q => ?_⟩
  rw [hz, BT.beq_eq, decide_eq_true rfl] at q
  cases q
noncomputable def exOf (cd : Code) (es : List (Addr × Obj)) : EX where
  en := adK es 0
  it := adK es 1
  acc := adK es 2
  fr := adK es 3
  cl := adK es 4
  lst := adK es 5
  F := envFr cd
  h := fun i => (entAt (obK es 3) i).hash
  t := fun i => sTok (entAt (obK es 3) i).key
noncomputable def rLT (P : Params) (n L : Nat → Nat) (k : Nat) : RuleD where
  D := 320
  U := 3700
  code cd es := cLT P (exOf cd es)
  objs cd es := ltPre (exOf cd es) n L (tkI (obK es 5)) (tkI (obK es 2)) (epOf (obK es 5)) k (natV (fldAt (obK es 0) 5)) (iTok (fldAt (obK es 0) 5)) (natV (entAt (obK es 3) 0).val) (iTok (entAt (obK es 3) 0).val) (natV (entAt (obK es 3) 1).val) (iTok (entAt (obK es 3) 1).val)
  spec cd es := .leaf witLT fun ws => ⟨.again (cLT P (exOf cd es)), ltOs (exOf cd es) n (tkI (obK es 5)) (epOf (obK es 5)) k (lrow n L (k + 1)) ws, []⟩
theorem rLT_ok (w : World) {n M L : Nat → Nat} (O : LOk n M L) {k : Nat} (h1 : 1 ≤ k) (h5 : k ≤ 5) : RuleD.Ok pw0 w (ko w.params) (rLT w.params n L k) := by
  intro cd es he
  refine cast_spec he ?_
  exact lt_spec w (exOf cd es) O _ _ _ _ _ _ _ _ _ h1 h5
noncomputable def rLT0 (P : Params) (n L : Nat → Nat) : RuleD where
  D := 320
  U := 3700
  code cd es := cLT P (exOf cd es)
  objs cd es := ltPreF (exOf cd es) n L (tkI (obK es 5)) (tkI (obK es 2)) (epOf (obK es 5)) 0 .none (dictO [] 0)
  spec cd es := .leaf witL0 fun ws => ⟨.again (cLT P (exOf cd es)), ltOs (gx0 P (exOf cd es) ws) n (tkI (obK es 5)) (epOf (obK es 5)) 0 (lrow n L 1) ws, []⟩
theorem rLT0_ok (w : World) {n M L : Nat → Nat} (O : LOk n M L) : RuleD.Ok pw0 w (ko w.params) (rLT0 w.params n L) := by
  intro cd es he
  refine cast_spec he ?_
  exact lt_spec0 w (exOf cd es) O _ _ _
noncomputable abbrev cLE (a : Addr) : Code := .call (.ref 260) ⟨[.ref a], []⟩
noncomputable def witLE (L : Leaf) : List Nat := adK L.ns 0 :: (itemsOf (obK L.ns 0)).map iTok
noncomputable def leSpec (n L : Nat → Nat) (t : Nat → Tok) (e : Nat) : Spec :=
  .leaf witLE fun ws => ⟨.res (.ok (.ret (.ref (ws.getD 0 0)))), [oInts t (rowF n 0 6) e], [(ws.getD 0 0, oInts (fun i => ws.getD (i + 1) 0) (lrow n L 6) 6)]⟩
noncomputable def rulesU (P : Params) (n L : Nat → Nat) : List RuleD := [rENew, rLT0 P n L, rLT P n L 1, rLT P n L 2, rLT P n L 3, rLT P n L 4, rLT P n L 5]
noncomputable def tgLE : Bool → Tg
  | true => (gl g0 [1, 0, 0, 3, 3, 0, 0, 3, 0, 0, 0, 3, 1, 0, 4, 4, 0, 4, 0, 4, 4, 4, 0, 4, 0, 4, 0, 4, 6, 3, 4, 5, 6, 2, 0, 5, 6, 3, 4, 5, 6, 2, 0, 6, 6, 3, 4, 5, 6, 2, 0, 7, 6, 3, 4, 5, 6, 2, 0, 8, 6, 3, 4, 5, 6, 2, 0, 9, 6, 3, 4, 5, 6, 2, 0, 0, 4, 0, 4, 0, 4, 5, 0, 5, 0, 5, 5, 1, 5, 5, 9, 7, 7, 7, 7, 7, 7, 5])
  | false => (gl g0 [1, 0, 0, 3, 3, 0, 0, 3, 0, 0, 0, 3, 1, 0, 4, 4, 0, 4, 0, 4, 4, 4, 0, 4, 0, 4, 0, 4, 4, 0, 4, 0, 4, 4, 6, 3, 4, 5, 6, 2, 0, 5, 6, 3, 4, 5, 6, 2, 0, 6, 6, 3, 4, 5, 6, 2, 0, 7, 6, 3, 4, 5, 6, 2, 0, 8, 6, 3, 4, 5, 6, 2, 0, 9, 6, 3, 4, 5, 6, 2, 0, 0, 4, 0, 4, 0, 4, 5, 0, 5, 0, 5, 5, 1, 5, 5, 9, 7, 7, 7, 7, 7, 7, 5])
noncomputable abbrev ckLE (P : Params) (b1 b2 : Bool) (a : Addr) (n L : Nat → Nat) (t : Nat → Tok) (e N tk : Nat) : Chk :=
  chkOf P b1 b2 (rulesU P n L) (cLE a) 310 3600 [(a, oInts t (rowF n 0 6) e)] N tk (tgLE b2) (leSpec n L t e)
set_option maxHeartbeats 0
theorem le_chk (P : Params) (b1 b2 : Bool) (a : Addr) (n L : Nat → Nat) (t : Nat → Tok) (e N tk : Nat) : (ckLE P b1 b2 a n L t e N tk).lhs = (ckLE P b1 b2 a n L t e N tk).rhs := by
  cases b1 <;> cases b2 <;> kernel_rfl
set_option maxHeartbeats 200000
theorem rulesU_ok (w : World) {n M L : Nat → Nat} (O : LOk n M L) : ∀ r ∈ rulesU w.params n L, RuleD.Ok pw0 w (ko w.params) r := by
  intro r hr
  simp only [rulesU, List.mem_cons, List.not_mem_nil, or_false] at hr
  rcases hr with rfl | rfl | rfl | rfl | rfl | rfl | rfl
  · exact rENew_ok _ _ _
  · exact rLT0_ok w O
  · exact rLT_ok w O (by omega) (by omega)
  · exact rLT_ok w O (by omega) (by omega)
  · exact rLT_ok w O (by omega) (by omega)
  · exact rLT_ok w O (by omega) (by omega)
  · exact rLT_ok w O (by omega) (by omega)
theorem le_spec (w : World) (a : Addr) {n M L : Nat → Nat} (O : LOk n M L) (t : Nat → Tok) (e : Nat) : CodeSpec pw0 w (ko w.params) 310 3600 (cLE a) [(a, oInts t (rowF n 0 6) e)] (leSpec n L t e) :=
  spec_ofT (tags := tgLE) w (rulesU_ok w O) fun b1 b2 N tk => le_chk w.params b1 b2 a n L t e N tk
/-- _law_least, known -/
noncomputable def rLEK (l l' : List Nat) : RuleD where
  D := 310
  U := 3600
  code _ es := cLE (ad0 es)
  objs _ es := [(ad0 es, oInts (tkI (ob0 es)) l (epOf (ob0 es)))]
  spec _ es := .leaf witLE fun ws => ⟨.res (.ok (.ret (.ref (ws.getD 0 0)))), [oInts (tkI (ob0 es)) l (epOf (ob0 es))], [(ws.getD 0 0, oInts (fun i => ws.getD (i + 1) 0) l' 6)]⟩
theorem rLEK_ok (w : World) {n M L : Nat → Nat} (O : LOk n M L) {l' : List Nat} (h : lrow n L 6 = l') : RuleD.Ok pw0 w (ko w.params) (rLEK (rowF n 0 6) l') := by
  intro cd es he
  refine cast_spec he ?_
  rw [← h]
  exact le_spec w (ad0 es) O (tkI (ob0 es)) (epOf (ob0 es))
end Mine

namespace Mine
open PySem PySem.Spec PySem.Calls PyProof.Rows PySem.W PySem.W.X

noncomputable def clTup (o : Obj) : Addr := match o with
  | ⟨_, _, .func fd, _⟩ => refOf fd.closureTuple
  | _ => 0
noncomputable def modV (o : Obj) : Value := match o with
  | ⟨_, _, .func fd, _⟩ => fd.pyModule
  | _ => .none
noncomputable def keyT (o : Obj) (k : Nat) : Tok := sTok (entAt o k).key
noncomputable def valT (o : Obj) (k : Nat) : Tok := sTok (entAt o k).val
noncomputable def valI (o : Obj) (k : Nat) : Tok := iTok (entAt o k).val
noncomputable def hN (P : Params) (i : Nat) : Int := match i with
  | 0 => hK P (sl [108, 105, 110, 101, 110, 111])
  | 1 => hK P (sl [105, 110, 115, 116, 114, 101, 97, 109])
  | 2 => hK P (sl [119, 104, 105, 116, 101, 115, 112, 97, 99, 101])
  | 3 => hK P (sl [112, 117, 115, 104, 98, 97, 99, 107])
  | 4 => hK P (sl [108, 105, 110, 101, 110, 111])
  | 5 => hK P (sl [105, 110, 115, 116, 114, 101, 97, 109])
  | 6 => hK P (sl [119, 104, 105, 116, 101, 115, 112, 97, 99, 101])
  | 7 => hK P (sl [112, 117, 115, 104, 98, 97, 99, 107])
  | _ => hK P (sl [114, 101, 97, 100])
/-- the lexer's parts out of a row of numbers -/
noncomputable def lxW (P : Params) (ws : List Nat) : LX where
  al := ws.getD 0 0
  ald := ws.getD 1 0
  as := ws.getD 2 0
  asd := ws.getD 3 0
  af := ws.getD 4 0
  ac := ws.getD 5 0
  acl := ws.getD 6 0
  aleft := ws.getD 7 0
  act := ws.getD 8 0
  apb := ws.getD 9 0
  apb0 := ws.getD 10 0
  h := hN P
  t := fun i => ws.getD (11 + i) 0
  v := fun i => match i with
    | 0 => .str (sl [108, 97, 119, 95, 112, 103, 48, 50, 55, 55, 95, 48, 49]) 643
    | _ => .str (sl [95, 108, 97, 119, 95, 110, 101, 120, 116]) (ws.getD 25 0)
  vr := [.str (sl [47, 99, 108, 97, 105, 109, 47, 99, 117, 116, 46, 112, 121]) (ws.getD 26 0), .int 175 0, .int 1 0, .int 0 0, .int 0 0, .int 19 0, .ref (ws.getD 27 0), .bool true, .int 276 0, .ref (ws.getD 28 0), .none, .ref (ws.getD 29 0), .ref (ws.getD 30 0), .ref (ws.getD 31 0), .int (Int.ofNat (ws.getD 32 0)) 0, .int 175 0, .str (sl [47, 99, 108, 97, 105, 109, 47, 99, 117, 116, 46, 112, 121]) (ws.getD 33 0)]
noncomputable def witLX (L : Leaf) : List Nat :=
  [adK L.ns 0, adK L.ns 1, adK L.ns 2, adK L.ns 3, adK L.ns 4, adK L.ns 5, adK L.ns 6, adK L.ns 7, clTup (obK L.ns 4), adK L.ns 8, refOf (entAt (obK L.ns 3) 3).val,
   keyT (obK L.ns 1) 0, valI (obK L.ns 1) 0, keyT (obK L.ns 1) 1, keyT (obK L.ns 1) 2, valT (obK L.ns 1) 2, keyT (obK L.ns 1) 3,
   keyT (obK L.ns 3) 0, valI (obK L.ns 3) 0, keyT (obK L.ns 3) 1, keyT (obK L.ns 3) 2, valT (obK L.ns 3) 2, keyT (obK L.ns 3) 3, keyT (obK L.ns 3) 4,
   sTok (fldAt (obK L.ns 5) 1), sTok (fldAt (obK L.ns 5) 0), sTok (fldAt (obK L.ns 5) 2), refOf (fldAt (obK L.ns 5) 8), refOf (fldAt (obK L.ns 5) 11), refOf (fldAt (obK L.ns 5) 13), refOf (fldAt (obK L.ns 5) 14), refOf (fldAt (obK L.ns 5) 15),
   natV (fldAt (obK L.ns 5) 16), sTok (fldAt (obK L.ns 5) 18), epOf (obK L.ns 7)] ++ (itemsOf (obK L.ns 7)).map sTok
noncomputable def lxNs (P : Params) (T : Nat → Nat) (m : Nat) (ws : List Nat) : List (Addr × Obj) :=
  lexPre P (lxW P ws) (chR T (fun i => ws.getD (i + 35) 0) 0 m) (ws.getD 34 0) ++ [(ws.getD 9 0, oList [] 0)]
noncomputable def oC0 : Obj := { cls := .none, data := .fields (Array.mk []) }
noncomputable def oC1 (a : Addr) : Obj := { cls := .none, data := .fields (Array.mk [.int 175 0, .int 4 0, .ref a]) }
noncomputable def lxSpec (P : Params) (T : Nat → Nat) (m : Nat) : Spec := .leaf witLX fun ws => ⟨.res (.ok (.ret (.ref (ws.getD 0 0)))), [oC1 (ws.getD 5 0)], lxNs P T m ws⟩
noncomputable abbrev cLX (x : Str) (t : Tok) : Code := .call (.ref 255) ⟨[.str x t], []⟩
noncomputable def rulesX (x : Str) (T : Nat → Nat) (m : Nat) : List RuleD := [rLNew, rLInit x T m]
noncomputable def tgLX : Tg := (gl g0 [1, 0, 0, 2, 2, 0, 0, 2, 0, 0, 3, 0, 4, 4, 0, 4, 4, 1, 3, 3, 3, 0, 0, 0, 0, 0, 0, 0, 0, 0, 0, 0, 0, 0, 0, 0, 0, 0, 0, 0, 0, 0, 0, 0, 0, 0, 0, 0, 0, 0, 0, 0, 0, 0, 0, 6, 0, 6, 0, 0, 0, 0, 1, 0, 0, 7, 7, 7, 7, 7, 6, 0, 0, 0, 0, 6, 0, 0, 6, 0, 6, 0, 0, 0, 6, 0, 5, 5, 5, 7, 7, 6, 0, 0, 0, 0, 6, 0, 0, 6, 0, 6, 0, 0, 0, 6, 0, 5, 5, 5, 7, 6, 0, 0, 0, 0, 6, 0, 0, 6, 0, 6, 0, 0, 0, 6, 0, 5, 5, 5, 7, 6, 0, 0, 0, 0, 6, 0, 0, 6, 0, 6, 0, 0, 0, 6, 0, 5, 5, 5, 2, 2, 0, 1, 1, 1, 1, 0, 0, 0, 2, 2, 2, 2, 6, 0, 0, 0, 0, 6, 0, 0, 6, 0, 6, 0, 0, 0, 6, 0, 5, 5, 5, 0, 2, 0, 0, 0, 0, 0, 0, 0, 0, 0, 0, 0, 0, 0, 0, 0, 0, 0, 0, 0, 0, 0, 0, 0, 0, 0, 0, 0, 0, 0, 0, 0, 0, 0, 18, 0, 18, 0, 0, 0, 0, 1, 0, 0, 19, 19, 19, 19, 19, 18, 0, 0, 0, 0, 18, 0, 0, 18, 0, 18, 0, 0, 0, 18, 0, 17, 17, 17, 19, 19, 18, 0, 0, 0, 0, 18, 0, 0, 18, 0, 18, 0, 0, 0, 18, 0, 17, 17, 17, 19, 18, 0, 0, 0, 0, 18, 0, 0, 18, 0, 18, 0, 0, 0, 18, 0, 17, 17, 17, 19, 18, 0, 0, 0, 0, 18, 0, 0, 18, 0, 18, 0, 0, 0, 18, 0, 17, 17, 17, 17, 16, 5, 4, 15, 14, 2, 3, 19])
noncomputable abbrev ckLX (P : Params) (b1 b2 : Bool) (x : Str) (t : Tok) (T : Nat → Nat) (m N tk : Nat) : Chk :=
  chkOf P b1 b2 (rulesX x T m) (cLX x t) 310 3600 [(250, oC0)] N tk tgLX (lxSpec P T m)
set_option maxHeartbeats 0
theorem lx_chk38 (P : Params) (b1 b2 : Bool) (x : Str) (t : Tok) (T : Nat → Nat) (N tk : Nat) : (ckLX P b1 b2 x t T 38 N tk).lhs = (ckLX P b1 b2 x t T 38 N tk).rhs := by
  cases b1 <;> kernel_rfl
theorem lx_chk59 (P : Params) (b1 b2 : Bool) (x : Str) (t : Tok) (T : Nat → Nat) (N tk : Nat) : (ckLX P b1 b2 x t T 59 N tk).lhs = (ckLX P b1 b2 x t T 59 N tk).rhs := by
  cases b1 <;> kernel_rfl
set_option maxHeartbeats 200000
/-- _law_lexer, the text known -/
noncomputable def rLX (P : Params) (x : Str) (T : Nat → Nat) (m : Nat) : RuleD where
  D := 310
  U := 3600
  code cd _ := cLX x (argST cd 0)
  objs _ _ := [(250, oC0)]
  spec _ _ := lxSpec P T m
theorem rLX_ok (w : World) {x : Str} {T : Nat → Nat} {m : Nat} (hm : x.cps.size = m) (hT : ∀ i < m, x.cps[i]? = some (T i)) (h : m = 38 ∨ m = 59) : RuleD.Ok pw0 w (ko w.params) (rLX w.params x T m) := by
  intro cd es he
  refine cast_spec he ?_
  have hr : ∀ r ∈ rulesX x T m, RuleD.Ok pw0 w (ko w.params) r := by
    intro r hr
    simp only [rulesX, List.mem_cons, List.not_mem_nil, or_false] at hr
    rcases hr with rfl | rfl
    · exact rLNew_ok _ _ _
    · exact rLInit_ok _ _ _ hm hT (by omega)
  rcases h with rfl | rfl
  · exact spec_of w hr fun b1 b2 N tk => lx_chk38 w.params b1 b2 x (argST cd 0) T N tk
  · exact spec_of w hr fun b1 b2 N tk => lx_chk59 w.params b1 b2 x (argST cd 0) T N tk
end Mine

namespace Mine
open PySem PySem.Spec PySem.Calls PyProof.Rows PySem.W PySem.W.X

/-- the places of the least ones -/
noncomputable def leasts : Nat → Nat → List Nat → List Nat
  | _, _, [] => []
  | k, m, n :: l => match Nat.blt n m with
    | true => k :: leasts (k + 1) n l
    | false => leasts (k + 1) m l
noncomputable def jsOf (ord : List Nat) : List Nat := leasts 0 7 ord
/-- the rows of the others while they grow -/
noncomputable def rowsOf : Nat → List Nat → List Nat → List (List Nat)
  | _, row, [] => [row]
  | m, row, n :: l => match Nat.blt n m with
    | true => rowsOf n row l
    | false => row :: rowsOf m (insN n row (bisN row n)) l
/-- the rows of the others while they shrink -/
noncomputable def shOf : Nat → List Nat → List Nat → List (List Nat × Nat × Nat)
  | _, row, [] => [(row, 0, 0)]
  | m, row, n :: l => match Nat.blt n m with
    | true => shOf n row l
    | false => (row, bisN row m, row.getD (bisN row m) 0) :: shOf m (row.eraseIdx (bisN row m)) l
noncomputable def lastL : List (List Nat) → List Nat
  | [] => []
  | [x] => x
  | _ :: y :: l => lastL (y :: l)
noncomputable def pdOf (ord : List Nat) (R : Nat → List Value) (d : Nat → Nat) : PD where
  n := fun k => ord.getD k 0
  O := fun s i => ((rowsOf 7 [] ord).getD s []).getD i 0
  Z := fun s i => ((shOf 7 (lastL (rowsOf 7 [] ord)) ord).getD s ([], 0, 0)).1.getD i 0
  J := fun s => ((shOf 7 (lastL (rowsOf 7 [] ord)) ord).getD s ([], 0, 0)).2.1
  M := fun s => ((shOf 7 (lastL (rowsOf 7 [] ord)) ord).getD s ([], 0, 0)).2.2
  R := R
  d := d
noncomputable def le6 (l : List Nat) : Bool := match l with
  | [] => true
  | x :: r => match Nat.ble x 6 with
    | true => le6 r
    | false => false
noncomputable def eqLB : List Nat → List Nat → Bool
  | [], [] => true
  | x :: l, y :: m => match Nat.beq x y with
    | true => eqLB l m
    | false => false
  | _, _ => false
noncomputable def andB (a b : Bool) : Bool := match a with
  | true => b
  | false => false
noncomputable def notB (a : Bool) : Bool := match a with
  | true => false
  | false => true
noncomputable def eqBB (a b : Bool) : Bool := match a with
  | true => b
  | false => notB b
/-- what must hold at the place k -/
noncomputable def placeB (p : PD) (js : List Nat) (k : Nat) : Bool :=
  andB (Nat.ble 1 (p.n k)) <| andB (Nat.ble (p.n k) 6) <| andB (eqBB (Nat.blt (p.n k) (lstL p js k)) (isL js k)) <|
  match isL js k with
  | true => true
  | false => andB (Nat.ble (cntL js k + 1) (cntL js 6)) <| andB (le6 (grow p (cntL js k))) <| andB (eqLB (insN (p.n k) (grow p (cntL js k)) (bisN (grow p (cntL js k)) (p.n k))) (grow p (cntL js k + 1))) <|
    andB (le6 (shr p (cntL js 6) (cntL js k))) <| andB (Nat.beq (bisN (shr p (cntL js 6) (cntL js k)) (lstL p js k)) (p.J (cntL js k))) <|
    andB (Nat.blt (p.J (cntL js k)) (shr p (cntL js 6) (cntL js k)).length) <| andB (Nat.beq ((shr p (cntL js 6) (cntL js k)).getD (p.J (cntL js k)) 0) (p.M (cntL js k))) <|
    andB (eqLB ((shr p (cntL js 6) (cntL js k)).eraseIdx (p.J (cntL js k))) (shr p (cntL js 6) (cntL js k + 1))) <|
    andB (Nat.ble (pushed p (cntL js 6) (cntL js k)) 6) (Nat.ble (p.M (cntL js k)) 6)
noncomputable def all6 (f : Nat → Bool) : Bool := andB (f 0) <| andB (f 1) <| andB (f 2) <| andB (f 3) <| andB (f 4) (f 5)
noncomputable def minRow (n : Nat → Nat) (k : Nat) : Nat := n (minI n k 1 0)
noncomputable def leRow (n : Nat → Nat) (k : Nat) : Nat := match Nat.beq (n k) (minRow n k) with
  | true => n k
  | false => 0
noncomputable def rowN (l : List Nat) (k : Nat) : Nat := l.getD k 0
/-- the two new orders -/
noncomputable def fstO (ord : List Nat) : List Nat := rowF (firstN (pdOf ord (fun _ => []) (fun _ => 0)) (jsOf ord)) 0 6
noncomputable def sndO (ord : List Nat) : List Nat := rowF (secondN (pdOf ord (fun _ => []) (fun _ => 0)) (jsOf ord)) 0 6
noncomputable def memL (x : List Nat) : List (List Nat) → Bool
  | [] => false
  | y :: l => match eqLB x y with
    | true => true
    | false => memL x l
noncomputable def subsL : List (List Nat) := [[0], [0, 1], [0, 2], [0, 1, 2], [0, 3], [0, 1, 3], [0, 2, 3], [0, 1, 2, 3], [0, 4], [0, 1, 4], [0, 2, 4], [0, 1, 2, 4], [0, 3, 4], [0, 1, 3, 4], [0, 2, 3, 4], [0, 1, 2, 3, 4], [0, 5], [0, 1, 5], [0, 2, 5], [0, 1, 2, 5], [0, 3, 5], [0, 1, 3, 5], [0, 2, 3, 5], [0, 1, 2, 3, 5], [0, 4, 5], [0, 1, 4, 5], [0, 2, 4, 5], [0, 1, 2, 4, 5], [0, 3, 4, 5], [0, 1, 3, 4, 5], [0, 2, 3, 4, 5], [0, 1, 2, 3, 4, 5]]
noncomputable def permB (l : List Nat) : Bool := l.isPerm [1, 2, 3, 4, 5, 6]
noncomputable def sumL : List Nat → Nat
  | [] => 0
  | x :: l => x + sumL l
noncomputable def ordB (ord : List Nat) : Bool :=
  andB (memL (jsOf ord) subsL) <| andB (all6 (placeB (pdOf ord (fun _ => []) (fun _ => 0)) (jsOf ord))) <|
  andB (permB (fstO ord)) <| andB (permB (sndO ord)) <|
  andB (eqLB (lrow (rowN (fstO ord)) (leRow (rowN (fstO ord))) 6) (lrow (rowN ord) (leRow (rowN ord)) 6)) <|
  andB (eqLB (lrow (rowN (sndO ord)) (leRow (rowN (sndO ord))) 6) (lrow (rowN ord) (leRow (rowN ord)) 6)) <|
  andB (notB (anyR false (rowN (fstO ord)) trips)) <| andB (notB (anyR true (rowN (sndO ord)) trips)) <|
  andB (eqBB (anyR false (rowN ord) trips) (notB (eqLB ord (fstO ord)))) <| andB (eqBB (anyR true (rowN ord) trips) (notB (eqLB ord (sndO ord)))) (Nat.beq (sumL ord) 21)
/-- an order drawn by the places m -/
noncomputable def drawn : List Nat → List Nat → List Nat
  | _, [] => []
  | l, j :: r => l.getD j 0 :: drawn (l.eraseIdx j) r
noncomputable def ordOf (a b c d e : Nat) : List Nat := drawn [1, 2, 3, 4, 5, 6] [a, b, c, d, e, 0]
noncomputable def allR (k : Nat) (f : Nat → Bool) : Bool := match k with
  | 0 => true
  | k + 1 => andB (f k) (allR k f)
noncomputable def ordsB (a : Nat) : Bool := allR 5 fun b => allR 4 fun c => allR 3 fun d => allR 2 fun e => ordB (ordOf a b c d e)

set_option maxHeartbeats 0

end Mine

namespace Mine
open PySem PySem.Spec PySem.Calls PyProof.Rows PySem.W PySem.W.X
set_option maxHeartbeats 0
theorem ords0 : ordsB 0 = true := by kernel_rfl
theorem ords1 : ordsB 1 = true := by kernel_rfl
theorem ords2 : ordsB 2 = true := by kernel_rfl
theorem ords3 : ordsB 3 = true := by kernel_rfl
theorem ords4 : ordsB 4 = true := by kernel_rfl
theorem ords5 : ordsB 5 = true := by kernel_rfl
set_option maxHeartbeats 200000
theorem allR_is {f : Nat → Bool} : ∀ {k : Nat}, allR k f = true → ∀ j < k, f j = true
  | 0, _, j, h => absurd h (Nat.not_lt_zero _)
  | k + 1, h, j, hj => by
    unfold allR at h
    cases q : f k with
    | false => rw [q] at h; cases h
    | true =>
      rw [q] at h
      by_cases e : j = k
      · rw [e]; exact q
      · exact allR_is (show allR k f = true from h) j (by omega)
theorem ords_is {a b c d e : Nat} (ha : a < 6) (hb : b < 5) (hc : c < 4) (hd : d < 3) (he : e < 2) : ordB (ordOf a b c d e) = true := by
  have h : ordsB a = true := by
    have : a = 0 ∨ a = 1 ∨ a = 2 ∨ a = 3 ∨ a = 4 ∨ a = 5 := by omega
    rcases this with rfl | rfl | rfl | rfl | rfl | rfl
    · exact ords0
    · exact ords1
    · exact ords2
    · exact ords3
    · exact ords4
    · exact ords5
  exact allR_is (allR_is (allR_is (allR_is h b hb) c hc) d hd) e he
end Mine

namespace Mine
open PySem PySem.Spec PySem.Calls PyProof.Rows PySem.W PySem.W.X

theorem andB_is {a b : Bool} (h : andB a b = true) : a = true ∧ b = true := by
  cases a with
  | true => exact ⟨rfl, h⟩
  | false => cases h
theorem eqBB_is {a b : Bool} (h : eqBB a b = true) : a = b := by
  cases a <;> cases b <;> first | rfl | cases h
theorem notB_is {a : Bool} (h : notB a = true) : a = false := by
  cases a with
  | true => cases h
  | false => rfl
theorem notB_eq (a : Bool) : notB a = !a := by cases a <;> rfl
theorem eqLB_iff : ∀ {l m : List Nat}, eqLB l m = true ↔ l = m
  | [], [] => by simp [eqLB]
  | [], _ :: _ => by simp [eqLB]
  | _ :: _, [] => by simp [eqLB]
  | x :: l, y :: m => by
    unfold eqLB
    cases q : Nat.beq x y with
    | true =>
      have := Nat.eq_of_beq_eq_true q
      subst this
      dsimp only
      rw [eqLB_iff]
      simp
    | false =>
      have : x ≠ y := fun e => by rw [e, BT.beq_eq, decide_eq_true rfl] at q; cases q
      simp [this]
theorem eqLB_dec (l m : List Nat) : eqLB l m = decide (l = m) := by
  by_cases h : l = m
  · rw [decide_eq_true h]; exact eqLB_iff.mpr h
  · rw [decide_eq_false h]
    cases q : eqLB l m with
    | true => exact absurd (eqLB_iff.mp q) h
    | false => rfl
theorem memL_is {x : List Nat} : ∀ {l : List (List Nat)}, memL x l = true → x ∈ l
  | [], h => by cases h
  | y :: l, h => by
    unfold memL at h
    cases q : eqLB x y with
    | true => rw [eqLB_iff.mp q]; exact List.mem_cons_self
    | false => rw [q] at h; exact List.mem_cons_of_mem _ (memL_is h)
theorem le6_is : ∀ {l : List Nat}, le6 l = true → ∀ x ∈ l, x ≤ 6
  | [], _, x, hx => nomatch hx
  | y :: l, h, x, hx => by
    unfold le6 at h
    cases q : Nat.ble y 6 with
    | true =>
      rw [q] at h
      rcases List.mem_cons.mp hx with rfl | hx
      · exact Nat.le_of_ble_eq_true q
      · exact le6_is h x hx
    | false => rw [q] at h; cases h
theorem all6_is {f : Nat → Bool} (h : all6 f = true) : ∀ k < 6, f k = true := by
  unfold all6 at h
  obtain ⟨h0, h⟩ := andB_is h
  obtain ⟨h1, h⟩ := andB_is h
  obtain ⟨h2, h⟩ := andB_is h
  obtain ⟨h3, h⟩ := andB_is h
  obtain ⟨h4, h5⟩ := andB_is h
  intro k hk
  have : k = 0 ∨ k = 1 ∨ k = 2 ∨ k = 3 ∨ k = 4 ∨ k = 5 := by omega
  rcases this with rfl | rfl | rfl | rfl | rfl | rfl <;> assumption
theorem le1000_of {l : List Nat} (h : le6 l = true) : le1000 l := fun n hn => Nat.le_trans (le6_is h n hn) (by omega)
/-- what a place brings -/
structure PlaceOk (p : PD) (js : List Nat) (k : Nat) : Prop where
  n1 : 1 ≤ p.n k
  n6 : p.n k ≤ 6
  lt : decide (p.n k < lstL p js k) = isL js k
  els : isL js k = false → cntL js k + 1 ≤ cntL js 6 ∧ le1000 (grow p (cntL js k)) ∧ insN (p.n k) (grow p (cntL js k)) (bisN (grow p (cntL js k)) (p.n k)) = grow p (cntL js k + 1) ∧
    le1000 (shr p (cntL js 6) (cntL js k)) ∧ bisN (shr p (cntL js 6) (cntL js k)) (lstL p js k) = p.J (cntL js k) ∧ (shr p (cntL js 6) (cntL js k))[p.J (cntL js k)]? = some (p.M (cntL js k)) ∧
    (shr p (cntL js 6) (cntL js k)).eraseIdx (p.J (cntL js k)) = shr p (cntL js 6) (cntL js k + 1) ∧ pushed p (cntL js 6) (cntL js k) ≤ 6 ∧ p.M (cntL js k) ≤ 6
theorem blt_dec (a b : Nat) : decide (a < b) = Nat.blt a b := by
  cases q : Nat.blt a b with
  | true => exact decide_eq_true (Nat.le_of_ble_eq_true q)
  | false =>
    refine decide_eq_false fun h => ?_
    have : Nat.blt a b = true := Nat.ble_eq_true_of_le h
    rw [q] at this
    cases this
theorem placeB_is {p : PD} {js : List Nat} {k : Nat} (h : placeB p js k = true) : PlaceOk p js k := by
  unfold placeB at h
  obtain ⟨h1, h⟩ := andB_is h
  obtain ⟨h2, h⟩ := andB_is h
  obtain ⟨h3, h⟩ := andB_is h
  refine ⟨Nat.le_of_ble_eq_true h1, Nat.le_of_ble_eq_true h2, by rw [blt_dec]; exact eqBB_is h3, fun q => ?_⟩
  rw [q] at h
  dsimp only at h
  obtain ⟨g1, h⟩ := andB_is h
  obtain ⟨g2, h⟩ := andB_is h
  obtain ⟨g3, h⟩ := andB_is h
  obtain ⟨g4, h⟩ := andB_is h
  obtain ⟨g5, h⟩ := andB_is h
  obtain ⟨g6, h⟩ := andB_is h
  obtain ⟨g7, h⟩ := andB_is h
  obtain ⟨g8, h⟩ := andB_is h
  obtain ⟨g9, h⟩ := andB_is h
  refine ⟨Nat.le_of_ble_eq_true g1, le1000_of g2, eqLB_iff.mp g3, le1000_of g4, Nat.eq_of_beq_eq_true g5, ?_, eqLB_iff.mp g8, Nat.le_of_ble_eq_true g9, Nat.le_of_ble_eq_true h⟩
  have hj : p.J (cntL js k) < (shr p (cntL js 6) (cntL js k)).length := Nat.le_of_ble_eq_true g6
  have := Nat.eq_of_beq_eq_true g7
  rw [List.getD_eq_getElem?_getD, List.getElem?_eq_getElem hj, Option.getD_some] at this
  rw [List.getElem?_eq_getElem hj, this]
/-- the same order with the row that is read -/
theorem place_of {ord : List Nat} {js : List Nat} {k : Nat} (R : Nat → List Value) (d : Nat → Nat) (h : PlaceOk (pdOf ord (fun _ => []) (fun _ => 0)) js k) : PlaceOk (pdOf ord R d) js k := by
  have e1 : ∀ j, lstL (pdOf ord R d) js j = lstL (pdOf ord (fun _ => []) (fun _ => 0)) js j := by
    intro j
    induction j with
    | zero => rfl
    | succ j ih =>
      show (match isL js j with | true => _ | false => lstL (pdOf ord R d) js j) = (match isL js j with | true => _ | false => lstL (pdOf ord (fun _ => []) (fun _ => 0)) js j)
      rw [ih]
      rfl
  have e2 : ∀ r s, shr (pdOf ord R d) r s = shr (pdOf ord (fun _ => []) (fun _ => 0)) r s := fun r s => by cases s <;> rfl
  refine ⟨h.n1, h.n6, ?_, fun q => ?_⟩
  · rw [e1]; exact h.lt
  · have z := h.els q
    rw [e1, e2, e2]
    exact z
theorem rowF_length (f : Nat → Nat) : ∀ (k i : Nat), (rowF f i k).length = k
  | 0, _ => rfl
  | k + 1, i => by simp [rowF, rowF_length f k (i + 1)]
theorem cntL_le (js : List Nat) : ∀ k, cntL js k ≤ k
  | 0 => Nat.le_refl _
  | k + 1 => by
    unfold cntL
    have := cntL_le js k
    cases isL js k <;> dsimp only <;> omega
theorem shr_len (p : PD) (r s : Nat) : (shr p r s).length ≤ r := by
  cases s with
  | zero => unfold shr grow; rw [rowF_length]; exact Nat.le_refl _
  | succ s => unfold shr; rw [rowF_length]; omega
theorem fam_mem {f : Nat → RuleD} {r : RuleD} (h : r ∈ fam f) : ∃ k < 6, r = f k := by
  simp only [fam, List.mem_cons, List.not_mem_nil, or_false] at h
  rcases h with rfl | rfl | rfl | rfl | rfl | rfl
  · exact ⟨0, by omega, rfl⟩
  · exact ⟨1, by omega, rfl⟩
  · exact ⟨2, by omega, rfl⟩
  · exact ⟨3, by omega, rfl⟩
  · exact ⟨4, by omega, rfl⟩
  · exact ⟨5, by omega, rfl⟩
theorem rulesP_ok (w : World) (x : LX) {c : Nat} (hc : okCh c = true) (p : PD) {js : List Nat} (j1 : js ≠ []) (j2 : js.length ≤ 6) (j3 : ∀ j ∈ js, j < 6) (j5 : cntL js 6 ≤ 5) (hw : ∀ k < 6, WordAt c (p.n k) (p.R k) (p.R (k + 1)) (p.d k)) (hp : ∀ k < 6, PlaceOk p js k) :
    ∀ r ∈ rulesP w.params x c p js, RuleD.Ok pw0 w (ko w.params) r := by
  intro r hr
  simp only [rulesP, List.mem_append] at hr
  rcases hr with ((((((((((hr | hr) | hr) | hr) | hr) | hr) | hr) | hr) | hr) | hr) | hr)
  · obtain ⟨k, hk, rfl⟩ := fam_mem hr
    exact rGTr_ok w x hc (hw k hk)
  · obtain ⟨k, hk, rfl⟩ := fam_mem hr
    exact rLtN_ok _ _ _ (hp k hk).lt
  · obtain ⟨k, hk, rfl⟩ := fam_mem hr
    exact rLenN_ok _ _ _ (Nat.le_trans (hp k hk).n6 (by omega))
  · obtain ⟨k, hk, rfl⟩ := fam_mem hr
    exact rAHn_ok w (by omega) hc (hp k hk).n1 (hp k hk).n6
  · obtain ⟨k, hk, rfl⟩ := fam_mem hr
    split
    · exact rPTg_ok w x
    · rename_i q
      have z := (hp k hk).els q
      exact rISn_ok w (by unfold grow; rw [rowF_length]; omega) z.2.1 (Nat.le_trans (hp k hk).n6 (by omega)) z.2.2.1
  · obtain ⟨k, hk, rfl⟩ := fam_mem hr
    exact rGetG_ok w hk j1 j2 j3
  · obtain ⟨k, hk, rfl⟩ := fam_mem hr
    split
    · exact rPTg_ok w x
    · rename_i q
      have z := (hp k hk).els q
      exact rBIn_ok w (Nat.le_trans (shr_len _ _ _) j5) z.2.2.2.1 z.2.2.2.2.1
  · obtain ⟨k, hk, rfl⟩ := fam_mem hr
    split
    · exact rPTg_ok w x
    · rename_i q
      have z := (hp k hk).els q
      exact rPopN_ok _ _ _ (Nat.le_trans (shr_len _ _ _) (by omega)) z.2.2.2.2.2.1 z.2.2.2.2.2.2.1
  · obtain ⟨k, hk, rfl⟩ := fam_mem hr
    split
    · exact rPTg_ok w x
    · rename_i q
      have z := (hp k hk).els q
      exact rLenN_ok _ _ _ (Nat.le_trans z.2.2.2.2.2.2.2.1 (by omega))
  · obtain ⟨k, hk, rfl⟩ := fam_mem hr
    split
    · exact rPTg_ok w x
    · rename_i q
      have z := (hp k hk).els q
      exact rLenN_ok _ _ _ (Nat.le_trans z.2.2.2.2.2.2.2.2 (by omega))
  · simp only [List.mem_cons, List.not_mem_nil, or_false] at hr
    rcases hr with rfl | rfl
    · exact rPTg_ok w x
    · exact rGPg_ok w x
/-- _law_partners, for each of the shapes -/
theorem pa_raw (w : World) (x : LX) {c : Nat} (p : PD) (e m : Nat) {js : List Nat} (hj : js ∈ subsL) (hr : ∀ r ∈ rulesP w.params x c p js, RuleD.Ok pw0 w (ko w.params) r) :
    CodeSpec pw0 w (ko w.params) 330 3800 (cPA x) (lexPre w.params x (p.R 0) e ++ [(x.apb, oList [] m)]) (paSpec w.params x p js e m) := by
  simp only [subsL, List.mem_cons, List.not_mem_nil, or_false] at hj
  rcases hj with rfl | rfl | rfl | rfl | rfl | rfl | rfl | rfl | rfl | rfl | rfl | rfl | rfl | rfl | rfl | rfl | rfl | rfl | rfl | rfl | rfl | rfl | rfl | rfl | rfl | rfl | rfl | rfl | rfl | rfl | rfl | rfl
  · exact spec_of w hr fun b1 b2 N tk => pa_chk0 w.params b1 b2 x c p e m N tk
  · exact spec_of w hr fun b1 b2 N tk => pa_chk01 w.params b1 b2 x c p e m N tk
  · exact spec_of w hr fun b1 b2 N tk => pa_chk02 w.params b1 b2 x c p e m N tk
  · exact spec_of w hr fun b1 b2 N tk => pa_chk012 w.params b1 b2 x c p e m N tk
  · exact spec_of w hr fun b1 b2 N tk => pa_chk03 w.params b1 b2 x c p e m N tk
  · exact spec_of w hr fun b1 b2 N tk => pa_chk013 w.params b1 b2 x c p e m N tk
  · exact spec_of w hr fun b1 b2 N tk => pa_chk023 w.params b1 b2 x c p e m N tk
  · exact spec_of w hr fun b1 b2 N tk => pa_chk0123 w.params b1 b2 x c p e m N tk
  · exact spec_of w hr fun b1 b2 N tk => pa_chk04 w.params b1 b2 x c p e m N tk
  · exact spec_of w hr fun b1 b2 N tk => pa_chk014 w.params b1 b2 x c p e m N tk
  · exact spec_of w hr fun b1 b2 N tk => pa_chk024 w.params b1 b2 x c p e m N tk
  · exact spec_of w hr fun b1 b2 N tk => pa_chk0124 w.params b1 b2 x c p e m N tk
  · exact spec_of w hr fun b1 b2 N tk => pa_chk034 w.params b1 b2 x c p e m N tk
  · exact spec_of w hr fun b1 b2 N tk => pa_chk0134 w.params b1 b2 x c p e m N tk
  · exact spec_of w hr fun b1 b2 N tk => pa_chk0234 w.params b1 b2 x c p e m N tk
  · exact spec_of w hr fun b1 b2 N tk => pa_chk01234 w.params b1 b2 x c p e m N tk
  · exact spec_of w hr fun b1 b2 N tk => pa_chk05 w.params b1 b2 x c p e m N tk
  · exact spec_of w hr fun b1 b2 N tk => pa_chk015 w.params b1 b2 x c p e m N tk
  · exact spec_of w hr fun b1 b2 N tk => pa_chk025 w.params b1 b2 x c p e m N tk
  · exact spec_of w hr fun b1 b2 N tk => pa_chk0125 w.params b1 b2 x c p e m N tk
  · exact spec_of w hr fun b1 b2 N tk => pa_chk035 w.params b1 b2 x c p e m N tk
  · exact spec_of w hr fun b1 b2 N tk => pa_chk0135 w.params b1 b2 x c p e m N tk
  · exact spec_of w hr fun b1 b2 N tk => pa_chk0235 w.params b1 b2 x c p e m N tk
  · exact spec_of w hr fun b1 b2 N tk => pa_chk01235 w.params b1 b2 x c p e m N tk
  · exact spec_of w hr fun b1 b2 N tk => pa_chk045 w.params b1 b2 x c p e m N tk
  · exact spec_of w hr fun b1 b2 N tk => pa_chk0145 w.params b1 b2 x c p e m N tk
  · exact spec_of w hr fun b1 b2 N tk => pa_chk0245 w.params b1 b2 x c p e m N tk
  · exact spec_of w hr fun b1 b2 N tk => pa_chk01245 w.params b1 b2 x c p e m N tk
  · exact spec_of w hr fun b1 b2 N tk => pa_chk0345 w.params b1 b2 x c p e m N tk
  · exact spec_of w hr fun b1 b2 N tk => pa_chk01345 w.params b1 b2 x c p e m N tk
  · exact spec_of w hr fun b1 b2 N tk => pa_chk02345 w.params b1 b2 x c p e m N tk
  · exact spec_of w hr fun b1 b2 N tk => pa_chk012345 w.params b1 b2 x c p e m N tk
theorem subs_ok {js : List Nat} (hj : js ∈ subsL) : js ≠ [] ∧ js.length ≤ 6 ∧ (∀ j ∈ js, j < 6) ∧ cntL js 6 ≤ 5 := by
  have : ∀ js ∈ subsL, js ≠ [] ∧ js.length ≤ 6 ∧ (∀ j ∈ js, j < 6) ∧ cntL js 6 ≤ 5 := by decide
  exact this js hj
noncomputable def vals (f : Nat → Tok) : Nat → List Nat → List Value
  | _, [] => []
  | i, c :: l => .str (chS c) (f i) :: vals f (i + 1) l
theorem vals_append (f : Nat → Tok) : ∀ (i : Nat) (a b : List Nat), vals f i (a ++ b) = vals f i a ++ vals f (i + a.length) b
  | i, [], b => by simp [vals]
  | i, c :: a, b => by
    show _ :: vals f (i + 1) (a ++ b) = _ :: (vals f (i + 1) a ++ vals f (i + (a.length + 1)) b)
    rw [vals_append f (i + 1) a b, show i + 1 + a.length = i + (a.length + 1) from by omega]
theorem vals_length (f : Nat → Tok) : ∀ (i : Nat) (l : List Nat), (vals f i l).length = l.length
  | _, [] => rfl
  | i, c :: l => by simp [vals, vals_length f (i + 1) l]
theorem chR_vals (T : Nat → Nat) (f : Nat → Tok) (l : List Nat) : ∀ (k i : Nat), l.length = k → (∀ j < k, l[j]? = some (T (i + j))) → chR T f i k = vals f i l := by
  induction l with
  | nil => intro k i hk _; subst hk; rfl
  | cons a l ih =>
    intro k i hk h
    cases k with
    | zero => cases hk
    | succ k =>
      have h0 := h 0 (by omega)
      simp only [List.getElem?_cons_zero, Option.some.injEq, Nat.add_zero] at h0
      show .str (chS (T i)) (f i) :: chR T f (i + 1) k = .str (chS a) (f i) :: vals f (i + 1) l
      rw [h0, ih k (i + 1) (by simpa using hk) fun j hj => by
        have := h (j + 1) (by omega)
        rw [List.getElem?_cons_succ] at this
        rw [this, show i + (j + 1) = i + 1 + j from by omega]]
noncomputable def baseC (c : Nat) : List Nat := match Nat.beq c 32 with
  | true => [32]
  | false => [92, c]
noncomputable def encC (c : Nat) : Nat → List Nat
  | 0 => []
  | n + 1 => baseC c ++ encC c n
noncomputable def tsF (c : Nat) (f : Nat → Tok) : Nat → Nat → List (Tok × Tok)
  | _, 0 => []
  | i, n + 1 => (f i, f (i + 1)) :: tsF c f (i + (baseC c).length) n
theorem tsF_length (c : Nat) (f : Nat → Tok) : ∀ (n i : Nat), (tsF c f i n).length = n
  | 0, _ => rfl
  | n + 1, i => by simp [tsF, tsF_length c f n]
theorem vals_enc (c : Nat) (f : Nat → Tok) : ∀ (n i : Nat), vals f i (encC c n) = encV c (tsF c f i n)
  | 0, _ => rfl
  | n + 1, i => by
    show vals f i (baseC c ++ encC c n) = encV c ((f i, f (i + 1)) :: tsF c f (i + (baseC c).length) n)
    rw [vals_append, vals_enc c f n]
    generalize hY : tsF c f (i + (baseC c).length) n = Y at *
    have e2 : encV c ((f i, f (i + 1)) :: Y) = match Nat.beq c 32 with
      | true => .str (chS 32) (f i) :: encV c Y
      | false => .str (chS 92) (f i) :: .str (chS c) (f (i + 1)) :: encV c Y := rfl
    rw [e2]
    unfold baseC
    cases q : Nat.beq c 32 with
    | true => rfl
    | false => rfl
noncomputable def ledC (b : Bool) : List Nat := match b with
  | true => []
  | false => [32]
/-- the text: words of the sign c between quotation marks -/
noncomputable def textL (c : Nat) : Bool → List Nat → List Nat
  | _, [] => []
  | b, n :: l => ledC b ++ 34 :: (encC c n ++ 34 :: textL c false l)
noncomputable def dC (c : Nat) (b : Bool) (n : Nat) : Nat := (ledC b).length + 1 + (encC c n).length + 1
theorem word_at (c : Nat) (f : Nat → Tok) (i : Nat) (b : Bool) (n : Nat) (l : List Nat) (h : 2 * n + (textL c false l).length < 800) : WordAt c n (vals f i (textL c b (n :: l))) (vals f (i + dC c b n) (textL c false l)) (dC c b n) := by
  have he : ∀ j, vals f j (34 :: (encC c n ++ 34 :: textL c false l)) = .str (chS 34) (f j) :: (encV c (tsF c f (j + 1) n) ++ .str (chS 34) (f (j + 1 + (encC c n).length)) :: vals f (j + 1 + (encC c n).length + 1) (textL c false l)) := fun j => by
    show .str (chS 34) (f j) :: vals f (j + 1) (encC c n ++ 34 :: textL c false l) = _
    rw [vals_append, vals_enc]
    rfl
  have hl : ∀ j, (encV c (tsF c f j n)).length = (encC c n).length := fun j => by rw [← vals_enc, vals_length]
  cases b with
  | true =>
    refine ⟨none, f i, tsF c f (i + 1) n, f (i + 1 + (encC c n).length), ?_, tsF_length _ _ _ _, by rw [vals_length]; exact h, ?_⟩
    · show vals f i (34 :: (encC c n ++ 34 :: textL c false l)) = _
      rw [he, show i + dC c true n = i + 1 + (encC c n).length + 1 from by unfold dC ledC; simp only [List.length_nil]; omega]
      rfl
    · rw [hl]; rfl
  | false =>
    refine ⟨some (f i), f (i + 1), tsF c f (i + 1 + 1) n, f (i + 1 + 1 + (encC c n).length), ?_, tsF_length _ _ _ _, by rw [vals_length]; exact h, ?_⟩
    · show .str (chS 32) (f i) :: vals f (i + 1) (34 :: (encC c n ++ 34 :: textL c false l)) = _
      rw [he, show i + dC c false n = i + 1 + 1 + (encC c n).length + 1 from by unfold dC ledC; simp only [List.length_cons, List.length_nil]; omega]
      rfl
    · rw [hl]; rfl
noncomputable def bK (k : Nat) : Bool := match k with
  | 0 => true
  | _ => false
noncomputable def dK (c : Nat) (ord : List Nat) (k : Nat) : Nat := dC c (bK k) (ord.getD k 0)
noncomputable def offK (c : Nat) (ord : List Nat) : Nat → Nat
  | 0 => 0
  | k + 1 => offK c ord k + dK c ord k
noncomputable def rK (c : Nat) (ord : List Nat) (f : Nat → Tok) (k : Nat) : List Value := vals f (offK c ord k) (textL c (bK k) (ord.drop k))
theorem enc_length (c : Nat) : ∀ n : Nat, (encC c n).length ≤ 2 * n
  | 0 => Nat.le_refl _
  | n + 1 => by
    show (baseC c ++ encC c n).length ≤ _
    have := enc_length c n
    have hb : (baseC c).length ≤ 2 := by unfold baseC; cases Nat.beq c 32 <;> simp
    rw [List.length_append]
    omega
theorem text_length (c : Nat) : ∀ (b : Bool) (l : List Nat), le6 l = true → (textL c b l).length ≤ 15 * l.length
  | _, [], _ => Nat.le_refl _
  | b, n :: l, h => by
    have h6 := le6_is h n List.mem_cons_self
    have hl : le6 l = true := by
      unfold le6 at h
      cases q : Nat.ble n 6 with
      | true => rw [q] at h; exact h
      | false => rw [q] at h; cases h
    have ih := text_length c false l hl
    have he := enc_length c n
    have hb : (ledC b).length ≤ 1 := by cases b <;> simp [ledC]
    show (ledC b ++ 34 :: (encC c n ++ 34 :: textL c false l)).length ≤ 15 * (l.length + 1)
    simp only [List.length_append, List.length_cons]
    omega
theorem le6_drop : ∀ (k : Nat) (l : List Nat), le6 l = true → le6 (l.drop k) = true
  | 0, l, h => h
  | k + 1, [], h => h
  | k + 1, n :: l, h => by
    have hl : le6 l = true := by
      unfold le6 at h
      cases q : Nat.ble n 6 with
      | true => rw [q] at h; exact h
      | false => rw [q] at h; cases h
    exact le6_drop k l hl
theorem rK_word (c : Nat) (ord : List Nat) (f : Nat → Tok) (h6 : ord.length = 6) (hl : le6 ord = true) (k : Nat) (hk : k < 6) : WordAt c (ord.getD k 0) (rK c ord f k) (rK c ord f (k + 1)) (dK c ord k) := by
  have hd : ord.drop k = ord.getD k 0 :: ord.drop (k + 1) := by
    rw [List.drop_eq_getElem_cons (by omega), List.getD_eq_getElem?_getD, List.getElem?_eq_getElem (by omega), Option.getD_some]
  unfold rK
  rw [hd]
  have hn : ord.getD k 0 ≤ 6 := by
    rw [List.getD_eq_getElem?_getD, List.getElem?_eq_getElem (by omega), Option.getD_some]
    exact le6_is hl _ (List.getElem_mem _)
  have ht := text_length c false (ord.drop (k + 1)) (le6_drop _ _ hl)
  have hle : (ord.drop (k + 1)).length ≤ 6 := by rw [List.length_drop]; omega
  exact word_at c f (offK c ord k) (bK k) (ord.getD k 0) (ord.drop (k + 1)) (by omega)
noncomputable def fldTl (o : Obj) : List Value := match o with
  | ⟨_, _, .fields vs, _⟩ => tlV (tlV vs.toList)
  | _ => []
noncomputable def lxD (es : List (Addr × Obj)) : LX where
  al := adK es 0
  ald := adK es 1
  as := adK es 2
  asd := adK es 3
  af := adK es 4
  ac := adK es 5
  acl := adK es 6
  aleft := adK es 7
  act := clTup (obK es 4)
  apb := adK es 8
  apb0 := refOf (entAt (obK es 3) 3).val
  h := fun i => match i with
    | 0 => (entAt (obK es 1) 0).hash
    | 1 => (entAt (obK es 1) 1).hash
    | 2 => (entAt (obK es 1) 2).hash
    | 3 => (entAt (obK es 1) 3).hash
    | 4 => (entAt (obK es 3) 0).hash
    | 5 => (entAt (obK es 3) 1).hash
    | 6 => (entAt (obK es 3) 2).hash
    | 7 => (entAt (obK es 3) 3).hash
    | _ => (entAt (obK es 3) 4).hash
  t := fun i => match i with
    | 0 => keyT (obK es 1) 0
    | 1 => valI (obK es 1) 0
    | 2 => keyT (obK es 1) 1
    | 3 => keyT (obK es 1) 2
    | 4 => valT (obK es 1) 2
    | 5 => keyT (obK es 1) 3
    | 6 => keyT (obK es 3) 0
    | 7 => valI (obK es 3) 0
    | 8 => keyT (obK es 3) 1
    | 9 => keyT (obK es 3) 2
    | 10 => valT (obK es 3) 2
    | 11 => keyT (obK es 3) 3
    | 12 => keyT (obK es 3) 4
    | _ => sTok (fldAt (obK es 5) 1)
  v := fun i => match i with
    | 0 => modV (obK es 4)
    | _ => fldAt (obK es 5) 0
  vr := fldTl (obK es 5)
/-- _law_partners, the new orders known -/
noncomputable def rPA (P : Params) (T : Nat → Nat) (m EE MM : Nat) (A B : List Nat) : RuleD where
  D := 330
  U := 3800
  code _ es := cPA (lxD es)
  objs _ es := lexPre P (lxD es) (chR T (tkAt (obK es 7)) 0 m) (epOf (obK es 7)) ++ [((lxD es).apb, oList [] (epOf (obK es 8)))]
  spec _ es := .leaf witP (fun ws => ⟨.res (.ok (.ret (.ref (ws.getD 0 0)))), lexOs P (lxD es) [] (epOf (obK es 7) + EE) ++ [oList [] (epOf (obK es 8) + MM)],
    [(ws.getD 0 0, oTup [.ref (ws.getD 1 0), .ref (ws.getD 2 0)]), (ws.getD 1 0, oInts (fun i => ws.getD (i + 3) 0) A 6), (ws.getD 2 0, oInts (fun i => ws.getD (i + 9) 0) B 6)]⟩)
theorem rPA_ok (w : World) {c : Nat} (hc : okCh c = true) {ord : List Nat} (h6 : ord.length = 6) (hl : le6 ord = true) (hb : ordB ord = true) {T : Nat → Nat} {m : Nat} (hm : (textL c true ord).length = m) (hT : ∀ j < m, (textL c true ord)[j]? = some (T j)) :
    RuleD.Ok pw0 w (ko w.params) (rPA w.params T m (dK c ord 0 + dK c ord 1 + dK c ord 2 + dK c ord 3 + dK c ord 4 + dK c ord 5) (2 * cntL (jsOf ord) 6) (fstO ord) (sndO ord)) := by
  intro cd es he
  refine cast_spec he ?_
  unfold ordB at hb
  obtain ⟨b1, hb⟩ := andB_is hb
  obtain ⟨b2, hb⟩ := andB_is hb
  have hj := memL_is b1
  obtain ⟨s1, s2, s3, s4⟩ := subs_ok hj
  have hp : ∀ k < 6, PlaceOk (pdOf ord (rK c ord (tkAt (obK es 7))) (dK c ord)) (jsOf ord) k := fun k hk => place_of _ _ (placeB_is (all6_is b2 k hk))
  have hr := rulesP_ok w (lxD es) hc (pdOf ord (rK c ord (tkAt (obK es 7))) (dK c ord)) s1 s2 s3 s4 (fun k hk => rK_word c ord (tkAt (obK es 7)) h6 hl k hk) hp
  have z := pa_raw w (lxD es) (pdOf ord (rK c ord (tkAt (obK es 7))) (dK c ord)) (epOf (obK es 7)) (epOf (obK es 8)) hj hr
  have e0 : chR T (tkAt (obK es 7)) 0 m = rK c ord (tkAt (obK es 7)) 0 := by
    rw [chR_vals T (tkAt (obK es 7)) (textL c true ord) m 0 hm fun j hj => by rw [hT j hj, Nat.zero_add]]
    rfl
  have e6 : rK c ord (tkAt (obK es 7)) 6 = [] := by
    unfold rK
    rw [List.drop_of_length_le (by omega)]
    rfl
  have eA : rowF (firstN (pdOf ord (rK c ord (tkAt (obK es 7))) (dK c ord)) (jsOf ord)) 0 6 = fstO ord := rfl
  have eB : rowF (secondN (pdOf ord (rK c ord (tkAt (obK es 7))) (dK c ord)) (jsOf ord)) 0 6 = sndO ord := rfl
  unfold paSpec at z
  rw [eA, eB, show (pdOf ord (rK c ord (tkAt (obK es 7))) (dK c ord)).R 6 = [] from e6, show (pdOf ord (rK c ord (tkAt (obK es 7))) (dK c ord)).R 0 = rK c ord (tkAt (obK es 7)) 0 from rfl, ← e0] at z
  refine z.mono fun V hw ws hp tk E => ?_
  have q := hw ws hp tk
  have en : epOf (obK es 7) + (dK c ord 0 + dK c ord 1 + dK c ord 2 + dK c ord 3 + dK c ord 4 + dK c ord 5) = epOf (obK es 7) + dK c ord 0 + dK c ord 1 + dK c ord 2 + dK c ord 3 + dK c ord 4 + dK c ord 5 := by omega
  dsimp only at q E
  rw [en] at q
  exact q E
end Mine

namespace Mine
open PySem PySem.Spec PySem.Calls PyProof.Rows PySem.W PySem.W.X

theorem sorted_code {prog : Program} {w : World} {A : Around} {R : Result → Shared → Prop} {s : Shared} {l : Addr} {vs : List Value} {ns : List Int} (hl : s.heap.IsList l vs.toArray) (hI : IntsAre vs ns) (h64 : vs.length < 64)
    (h : ∀ (out : Array Value) (ns' : List Int), IntsAre out.toList ns' → ns'.Perm ns → ns'.Pairwise (· ≤ ·) → R (.ok (.ret (.ref (s.heap.objs.size + 1)))) { s with heap := sortedAll s.heap vs out }) :
    codeAny (model prog w) A (.builtin "sorted" ⟨[.ref l], []⟩) R s := by
  refine codeAny_builtin entry_sorted ?_
  rw [Around.under_plainId plain_sorted _]
  unfold Builtin.«sorted»
  refine wpAny_bind (m := checkCount "sorted" 1 1 _) (wpAny_pure ?_)
  refine wpAny_bind (collect_list hl ?_ (by rw [sizeLine_eq]; omega))
  refine wpAny_bind (wpAny_newList ?_ (by rw [sizeLine_eq]; omega))
  have hsz : ((s.heap.push (seqObj "list" #[] 0)).update s.heap.objs.size (Obj.mapSeq (· ++ vs.toArray))).objs.size = s.heap.objs.size + 1 := by
    rw [Heap.size_update, size_push']
  have hoL : (((s.heap.push (seqObj "list" #[] 0)).update s.heap.objs.size (Obj.mapSeq (· ++ vs.toArray))).push (seqObj "list" vs.toArray 0)).get? (s.heap.objs.size + 1) = some (seqObj "list" vs.toArray 0) := by
    rw [← hsz]; exact Heap.get?_push_size _ rfl
  show wpAny _ _ _ _ _ { s with heap := ((s.heap.push (seqObj "list" #[] 0)).update s.heap.objs.size (Obj.mapSeq (· ++ vs.toArray))).push (seqObj "list" vs.toArray 0) }
  rw [hsz]
  refine wpAny_bind (wpAny_holding (wpAny_call_entry slot_list_sort ⟨_, hoL, rfl⟩ entry_list_sort (list_sort_tree hoL hI h64 fun out ns' a1 a2 a3 => ⟨_, rfl, ?_⟩) (args_list_sort _)))
  exact wpAny_pure (h out ns' a1 a2 a3)
/-- sorted of ints, known -/
noncomputable def rSortedK (l l' : List Nat) : RuleD where
  D := 900
  U := 9000
  code cd es := .builtin (idOf cd) ⟨[.ref (ad0 es)], []⟩
  objs _ es := [(ad0 es, oInts (tkI (ob0 es)) l (epOf (ob0 es)))]
  spec cd es := ifId 111490731569268 cd (.leaf witLE (fun ws => ⟨.res (.ok (.ret (.ref (ws.getD 0 0)))), [oInts (tkI (ob0 es)) l (epOf (ob0 es))], [(ws.getD 0 0, oInts (fun i => ws.getD (i + 1) 0) l' 2)]⟩))
theorem rSortedK_ok (prog : Program) (w : World) (kt : Addr → Obj → Prop) {l l' : List Nat} (h1 : 0 < l.length) (h2 : l.length < 64) (hp : l.Perm l') (hs : l'.Pairwise (· ≤ ·)) : RuleD.Ok prog w kt (rSortedK l l') := by
  intro cd es he
  refine cast_spec he ?_
  intro A R s hA hD hU H hw
  unfold rSortedK ifId at hw ⊢
  dsimp only at hw ⊢
  split at hw
  · rename_i hid
    have hid := eqLit_is "sorted" (by decide +kernel) hid
    rw [hid]
    have H : Start kt s.heap [(ad0 es, oInts (tkI (ob0 es)) l (epOf (ob0 es)))] := H
    generalize ad0 es = a at *
    generalize epOf (ob0 es) = n at *
    generalize tkI (ob0 es) = f at *
    have hg : s.heap.get? a = some (seqObj "list" (mkI f 0 l).toArray n) := (H.own _ List.mem_cons_self).1
    refine sorted_code ⟨_, hg, rfl, n, rfl⟩ (mkI_are f 0 l) (by rw [mkI_length]; exact h2) fun out ns' ho hpe hpw => ?_
    have en : ns' = l'.map Int.ofNat := by
      refine perm_sorted (hpe.trans (hp.map _)) hpw ?_
      rw [List.pairwise_map]
      exact hs.imp fun h => Int.ofNat_le.mpr h
    subst en
    have eo := mkI_of (lv := out.toList) (l := l') (by
      rw [are_vals ho]
      unfold iVals
      rw [List.map_map]
      rfl) 1 [s.heap.objs.size + 1] rfl
    have hsz : out.size = l'.length := by
      have := ho.length
      rw [List.length_map] at this
      simpa using this
    have hl' : l'.length = l.length := hp.length_eq.symm
    have hz : ∀ h : Heap, (h.push (seqObj "list" #[] 0)).objs.size = h.objs.size + 1 := fun h => size_push' h _
    generalize hvs : mkI f 0 l = vs at *
    have hvl : vs.length = l.length := by rw [← hvs, mkI_length]
    let h1' := (s.heap.push (seqObj "list" #[] 0)).update s.heap.objs.size (Obj.mapSeq (· ++ vs.toArray))
    have e1 : h1'.objs.size = s.heap.objs.size + 1 := by
      show ((s.heap.push (seqObj "list" #[] 0)).update s.heap.objs.size (Obj.mapSeq (· ++ vs.toArray))).objs.size = _
      rw [Heap.size_update, size_push']
    have g0 : (h1'.push (seqObj "list" vs.toArray 0)).get? (s.heap.objs.size + 1) = some (seqObj "list" vs.toArray 0) := by
      rw [← e1]; exact Heap.get?_push_size _ rfl
    have k0 : ∀ b ob, s.heap.get? b = some ob → (h1'.push (seqObj "list" vs.toArray 0)).get? b = some ob := fun b ob e => by
      refine Heap.get?_push_of_some _ ?_
      exact (Heap.get?_update_other _ _ (Ne.symm (Nat.ne_of_lt (Heap.lt_size e)))).trans (Heap.get?_push_of_some _ e)
    have kS : ∀ (h : Heap) (a : Addr) b ob, b ≠ a → h.get? b = some ob → (sortedHeap h a vs out).get? b = some ob := fun h a b ob hb e => by
      unfold sortedHeap
      exact (Heap.get?_update_other _ _ (Ne.symm hb)).trans (Heap.get?_push_of_some _ (Heap.get?_push_of_some _ ((Heap.get?_update_other _ _ (Ne.symm hb)).trans e)))
    refine hw ((s.heap.objs.size + 1) :: out.toList.map iTok) _ s.toks ?_
    refine ends_made (o := oInts (fun i => ((s.heap.objs.size + 1) :: out.toList.map iTok).getD (i + 1) 0) l' 2) H (fun b ob e => ?_) ?_ ?_
    · exact kS _ _ b ob (Nat.ne_of_lt (Nat.lt_succ_of_lt (Heap.lt_size e))) (k0 b ob e)
    · cases q : s.heap.get? (s.heap.objs.size + 1) with
      | none => exact q
      | some o => exact absurd (Heap.lt_size q) (Nat.not_lt.mpr (Nat.le_succ _))
    · have g1 := get?_update_seq g0 (fun _ => #[])
      have g2 := Heap.get?_push_of_some (seqObj "tuple" vs.toArray 0) g1
      have g3 := Heap.get?_push_of_some (seqObj "list" #[] 0) g2
      have g4 := get?_update_seq g3 (fun _ => out)
      refine g4.trans ?_
      have c1 : ((#[] : Array Value).size == vs.toArray.size) = false := by
        rw [beq_eq_false_iff_ne]
        show 0 ≠ vs.length
        omega
      have c2 : (out.size == (#[] : Array Value).size) = false := by
        rw [beq_eq_false_iff_ne, hsz]
        show _ ≠ 0
        omega
      rw [c1, c2]
      have ea : out = (mkI (fun i => ((s.heap.objs.size + 1) :: out.toList.map iTok).getD (i + 1) 0) 0 l').toArray := by
        apply Array.ext'
        simpa using eo
      show some (seqObj "list" out (0 + 1 + 1)) = some (oList _ _)
      unfold oList
      conv => lhs; rw [ea]
  · cases hw
end Mine

namespace Mine
open PySem PySem.Spec PySem.Calls PyProof.Rows PySem.W PySem.W.X

/-- what happens in one call of law: the script's ints z, the remainders q, the rows of what is left, the order n, the words, the text, the two new orders, the row of the least ones -/
structure LD where
  z : Nat → Int
  u : Nat → Tok
  more : List Value
  len : Nat
  q : Nat → Nat
  S : Nat → Nat → Nat
  n : Nat → Nat
  W : Nat → Str
  JO : Str
  T1 : Str
  TX : Str
  T : Nat → Nat
  EE : Nat
  MM : Nat
  A : Nat → Nat
  B : Nat → Nat
  L : Nat → Nat
  r1 : Bool
  r2 : Bool
noncomputable def dfl : Nat → Int
  | 0 => 2
  | 1 => 3
  | 2 => 0
  | 3 => 1
  | _ => 0
/-- the k-th int of a script of s ints -/
noncomputable def zz (D : LD) (s k : Nat) : Int := match Nat.blt k s with
  | true => D.z k
  | false => dfl k
noncomputable def restR6 (D : LD) (k : Nat) : List Nat := match k with
  | 0 => [1, 2, 3, 4, 5, 6]
  | k + 1 => rowF (D.S (k + 1)) 0 (6 - (k + 1))
noncomputable def itemsZ (D : LD) : Nat → Nat → List Value
  | _, 0 => []
  | i, k + 1 => .int (D.z i) (D.u i) :: itemsZ D (i + 1) k
/-- the script's items: s of them (s below 6), or six and more -/
noncomputable def itemsS (D : LD) (s : Nat) : List Value := match Nat.blt s 6 with
  | true => itemsZ D 0 s
  | false => .int (D.z 0) (D.u 0) :: .int (D.z 1) (D.u 1) :: .int (D.z 2) (D.u 2) :: .int (D.z 3) (D.u 3) :: .int (D.z 4) (D.u 4) :: .int (D.z 5) (D.u 5) :: D.more
noncomputable def sgn (r : Nat) : Nat := match r with
  | 0 => 32
  | 1 => 34
  | _ => 92
noncomputable def baseS (r : Nat) : Str := Str.mk (Array.mk (baseC (sgn r)))
noncomputable def lenT (r : Nat) : Nat := match r with
  | 0 => 38
  | _ => 59
noncomputable def rulesW (P : Params) (D : LD) (s r : Nat) : List RuleD :=
  fam (fun k => rMod (zz D s k) (6 - Int.ofNat k) (D.q k)) ++
  fam (fun k => rPopI (restR6 D k) (D.q k) (D.n k) (restR6 D (k + 1))) ++
  fam (fun k => rMulK (baseS r) (D.n k) (D.W k)) ++
  [rJoinK (sl [34, 32, 34]) D.W D.JO, rAddK (sl [34]) D.JO D.T1, rAddK D.T1 (sl [34]) D.TX, rLX P D.TX D.T (lenT r), rPA P D.T (lenT r) D.EE D.MM (rowF D.A 0 6) (rowF D.B 0 6),
    rSortedK (rowF D.A 0 6) [1, 2, 3, 4, 5, 6], rSortedK (rowF D.B 0 6) [1, 2, 3, 4, 5, 6], rNeK [1, 2, 3, 4, 5, 6] [1, 2, 3, 4, 5, 6] false,
    rLEK (rowF D.A 0 6) (rowF D.L 0 6), rLEK (rowF D.B 0 6) (rowF D.L 0 6), rLEK (rowF D.n 0 6) (rowF D.L 0 6), rNeK (rowF D.L 0 6) (rowF D.L 0 6) false,
    rRSK false (rowF D.A 0 6) false, rRSK true (rowF D.B 0 6) false, rRSA false (rowF D.n 0 6) D.r1, rRSA true (rowF D.n 0 6) D.r2, rNeA (rowF D.n 0 6) (rowF D.A 0 6) D.r1, rNeA (rowF D.n 0 6) (rowF D.B 0 6) D.r2] ++
  (match Nat.blt s 6 with
    | true => [rMod (Int.ofNat s) 3 r]
    | false => [rSlTo (itemsS D 6) 6 (itemsZ D 0 6), rLenK (itemsS D 6) D.len, rSlFrom D.len, rMod (Int.ofNat D.len) 3 r])
noncomputable abbrev cLAW : Code := .call (.ref 287) ⟨[.ref 288], []⟩
noncomputable def witLaw (L : Leaf) : List Nat := [refOf (fldAt (osK L.os 1) 2)]
noncomputable def lawLeaf (D : LD) (s : Nat) (b : Bool) : Spec := .leaf witLaw fun ws => ⟨.res (.ok (.ret (.bool b))), [oList (itemsS D s) 0, oC1 (ws.getD 0 0)], []⟩
noncomputable def lawRaw (D : LD) (s : Nat) : Spec :=
  .ask D.r1
    (.ask D.r1 (.ask D.r2 (.ask D.r2 (lawLeaf D s true) (lawLeaf D s false)) (.ask D.r2 (lawLeaf D s false) (lawLeaf D s true))) (lawLeaf D s false))
    (.ask D.r1 (lawLeaf D s false) (.ask D.r2 (.ask D.r2 (lawLeaf D s true) (lawLeaf D s false)) (.ask D.r2 (lawLeaf D s false) (lawLeaf D s true))))
noncomputable abbrev ckLW (P : Params) (b1 b2 : Bool) (D : LD) (s r N tk : Nat) (tg : Tg) : Chk :=
  chkOf P b1 b2 (rulesW P D s r) cLAW 305 100 [(288, oList (itemsS D s) 0), (250, oC0)] N tk tg (lawRaw D s)
noncomputable def tgLW0 : Bool → Tg
  | true => (gl (gf (gl (gf (gl (gf (gl (gf (gl g0 []) (gl g0 [])) [3, 3, 14, 34, 14, 0, 14, 38, 2, 13, 33]) (gl (gf (gl g0 []) (gl g0 [])) [3, 3, 14, 34, 14, 0, 14, 38, 2, 13, 33])) [0, 3, 0, 36, 1, 13]) (gl g0 [])) [3, 3, 14, 33, 14, 0, 14, 37, 2, 13, 32]) (gl (gf (gl g0 []) (gl (gf (gl (gf (gl g0 []) (gl g0 [])) [3, 3, 14, 34, 14, 0, 14, 38, 2, 13, 33]) (gl (gf (gl g0 []) (gl g0 [])) [3, 3, 14, 34, 14, 0, 14, 38, 2, 13, 33])) [0, 3, 0, 36, 1, 13])) [3, 3, 14, 33, 14, 0, 14, 37, 2, 13, 32])) [1, 0, 0, 3, 3, 4, 4, 3, 1, 1, 1, 0, 1, 0, 7, 7, 7, 7, 7, 1, 0, 0, 3, 0, 0, 1, 0, 1, 0, 1, 9, 9, 9, 0, 9, 0, 10, 10, 10, 10, 10, 9, 0, 8, 11, 8, 0, 8, 0, 11, 8, 11, 12, 12, 0, 12, 0, 13, 0, 0, 13, 0, 13, 0, 13, 13, 12, 13, 13, 15, 15, 4, 6, 6, 6, 6, 15, 0, 0, 4, 0, 0, 6, 0, 6, 0, 6, 0, 3, 0, 0, 6, 9, 1, 5, 0, 14, 0, 14, 14, 14, 0, 13, 0, 13, 0, 13, 13, 12, 13, 13, 15, 15, 4, 6, 6, 6, 6, 15, 0, 0, 4, 0, 0, 6, 0, 6, 0, 6, 0, 4, 0, 0, 6, 10, 1, 5, 0, 14, 0, 14, 14, 14, 0, 13, 0, 13, 0, 13, 13, 12, 13, 13, 15, 15, 4, 6, 6, 6, 6, 15, 0, 0, 4, 0, 0, 6, 0, 6, 0, 6, 0, 5, 0, 0, 6, 11, 1, 5, 0, 14, 0, 14, 14, 14, 0, 13, 0, 13, 0, 13, 13, 12, 13, 13, 15, 15, 4, 6, 6, 6, 6, 15, 0, 0, 4, 0, 0, 6, 0, 6, 0, 6, 0, 6, 0, 0, 6, 12, 1, 5, 0, 14, 0, 14, 14, 14, 0, 13, 0, 13, 0, 13, 13, 12, 13, 13, 15, 15, 4, 6, 6, 6, 6, 15, 0, 0, 4, 0, 0, 6, 0, 6, 0, 6, 0, 7, 0, 0, 6, 13, 1, 5, 0, 14, 0, 14, 14, 14, 0, 13, 0, 13, 0, 13, 13, 12, 13, 13, 15, 15, 4, 6, 6, 6, 6, 15, 0, 0, 4, 0, 0, 6, 0, 6, 0, 6, 0, 8, 0, 0, 6, 14, 1, 5, 0, 14, 0, 14, 14, 14, 0, 13, 0, 13, 0, 13, 13, 12, 13, 13, 17, 3, 3, 15, 15, 15, 0, 0, 3, 0, 0, 1, 0, 1, 0, 1, 0, 39, 0, 0, 0, 5, 5, 3, 14, 14, 0, 14, 0, 18, 0, 0, 18, 0, 18, 0, 18, 18, 14, 18, 18, 20, 20, 5, 0, 0, 5, 20, 0, 0, 0, 15, 0, 0, 19, 0, 19, 19, 19, 0, 18, 0, 18, 0, 18, 18, 14, 18, 18, 20, 20, 5, 0, 0, 5, 20, 0, 0, 0, 16, 0, 0, 19, 0, 19, 19, 19, 0, 18, 0, 18, 0, 18, 18, 14, 18, 18, 20, 20, 5, 0, 0, 5, 20, 0, 0, 0, 17, 0, 0, 19, 0, 19, 19, 19, 0, 18, 0, 18, 0, 18, 18, 14, 18, 18, 20, 20, 5, 0, 0, 5, 20, 0, 0, 0, 18, 0, 0, 19, 0, 19, 19, 19, 0, 18, 0, 18, 0, 18, 18, 14, 18, 18, 20, 20, 5, 0, 0, 5, 20, 0, 0, 0, 19, 0, 0, 19, 0, 19, 19, 19, 0, 18, 0, 18, 0, 18, 18, 14, 18, 18, 20, 20, 5, 0, 0, 5, 20, 0, 0, 0, 20, 0, 0, 19, 0, 19, 19, 19, 0, 18, 0, 18, 0, 18, 18, 14, 18, 18, 22, 3, 3, 20, 20, 20, 0, 0, 3, 0, 21, 1, 18, 0, 22, 0, 0, 23, 0, 0, 24, 1, 1, 0, 25, 9, 22, 23, 24, 25, 26, 27, 28, 29, 30, 32, 32, 32, 0, 32, 0, 35, 35, 0, 35, 0, 35, 35, 32, 35, 35, 35, 0, 35, 0, 35, 35, 32, 35, 35, 35, 0, 35, 0, 35, 35, 32, 35, 35, 37, 3, 3, 3, 3, 3, 3, 38, 38, 0, 38, 0, 39, 0, 39, 0, 39, 0, 39, 39, 38, 39, 39, 3, 3, 0, 0, 3, 0, 26, 1, 32, 40, 41, 40, 0, 40, 28, 2, 39, 40, 0, 3, 0, 29, 1, 32, 0, 3, 0, 31, 1, 13, 42, 43, 42, 0, 42, 32, 2, 41, 42, 0, 39, 0, 39, 0, 39, 39, 38, 39, 39, 3, 3, 0, 0, 3, 0, 27, 1, 33, 44, 45, 44, 0, 44, 28, 2, 43, 44, 0, 3, 0, 30, 1, 33, 0, 3, 0, 31, 1, 13, 46, 47, 46, 0, 46, 32, 2, 45, 46, 0, 39, 0, 39, 0, 39, 39, 38, 39, 39, 49, 0, 0, 3, 0, 33, 1, 32, 0, 3, 0, 34, 1, 33, 0, 3, 0, 35, 1, 13])
  | false => (gl (gf (gl (gf (gl (gf (gl (gf (gl g0 []) (gl g0 [])) [3, 3, 14, 34, 14, 0, 14, 38, 2, 13, 33]) (gl (gf (gl g0 []) (gl g0 [])) [3, 3, 14, 34, 14, 0, 14, 38, 2, 13, 33])) [0, 3, 0, 36, 1, 13]) (gl g0 [])) [3, 3, 14, 33, 14, 0, 14, 37, 2, 13, 32]) (gl (gf (gl g0 []) (gl (gf (gl (gf (gl g0 []) (gl g0 [])) [3, 3, 14, 34, 14, 0, 14, 38, 2, 13, 33]) (gl (gf (gl g0 []) (gl g0 [])) [3, 3, 14, 34, 14, 0, 14, 38, 2, 13, 33])) [0, 3, 0, 36, 1, 13])) [3, 3, 14, 33, 14, 0, 14, 37, 2, 13, 32])) [1, 0, 0, 3, 3, 4, 4, 3, 1, 1, 1, 0, 1, 0, 7, 7, 7, 7, 7, 1, 0, 0, 3, 0, 0, 1, 0, 1, 0, 1, 9, 9, 9, 0, 9, 0, 10, 10, 10, 10, 10, 9, 0, 8, 11, 8, 0, 8, 0, 11, 8, 11, 12, 12, 0, 12, 0, 13, 0, 13, 13, 0, 13, 0, 13, 0, 13, 0, 13, 0, 13, 13, 12, 13, 13, 15, 15, 4, 6, 6, 6, 6, 15, 0, 0, 4, 0, 0, 6, 0, 6, 0, 6, 0, 3, 0, 0, 6, 9, 1, 5, 0, 14, 0, 14, 14, 14, 0, 13, 0, 13, 0, 13, 13, 12, 13, 13, 15, 15, 4, 6, 6, 6, 6, 15, 0, 0, 4, 0, 0, 6, 0, 6, 0, 6, 0, 4, 0, 0, 6, 10, 1, 5, 0, 14, 0, 14, 14, 14, 0, 13, 0, 13, 0, 13, 13, 12, 13, 13, 15, 15, 4, 6, 6, 6, 6, 15, 0, 0, 4, 0, 0, 6, 0, 6, 0, 6, 0, 5, 0, 0, 6, 11, 1, 5, 0, 14, 0, 14, 14, 14, 0, 13, 0, 13, 0, 13, 13, 12, 13, 13, 15, 15, 4, 6, 6, 6, 6, 15, 0, 0, 4, 0, 0, 6, 0, 6, 0, 6, 0, 6, 0, 0, 6, 12, 1, 5, 0, 14, 0, 14, 14, 14, 0, 13, 0, 13, 0, 13, 13, 12, 13, 13, 15, 15, 4, 6, 6, 6, 6, 15, 0, 0, 4, 0, 0, 6, 0, 6, 0, 6, 0, 7, 0, 0, 6, 13, 1, 5, 0, 14, 0, 14, 14, 14, 0, 13, 0, 13, 0, 13, 13, 12, 13, 13, 15, 15, 4, 6, 6, 6, 6, 15, 0, 0, 4, 0, 0, 6, 0, 6, 0, 6, 0, 8, 0, 0, 6, 14, 1, 5, 0, 14, 0, 14, 14, 14, 0, 13, 0, 13, 0, 13, 13, 12, 13, 13, 17, 3, 3, 15, 15, 15, 0, 0, 3, 0, 0, 1, 0, 1, 0, 1, 0, 39, 0, 0, 0, 5, 5, 3, 14, 14, 0, 14, 0, 18, 0, 18, 18, 0, 18, 0, 18, 0, 18, 0, 18, 0, 18, 18, 14, 18, 18, 20, 20, 5, 0, 0, 5, 20, 0, 0, 0, 15, 0, 0, 19, 0, 19, 19, 19, 0, 18, 0, 18, 0, 18, 18, 14, 18, 18, 20, 20, 5, 0, 0, 5, 20, 0, 0, 0, 16, 0, 0, 19, 0, 19, 19, 19, 0, 18, 0, 18, 0, 18, 18, 14, 18, 18, 20, 20, 5, 0, 0, 5, 20, 0, 0, 0, 17, 0, 0, 19, 0, 19, 19, 19, 0, 18, 0, 18, 0, 18, 18, 14, 18, 18, 20, 20, 5, 0, 0, 5, 20, 0, 0, 0, 18, 0, 0, 19, 0, 19, 19, 19, 0, 18, 0, 18, 0, 18, 18, 14, 18, 18, 20, 20, 5, 0, 0, 5, 20, 0, 0, 0, 19, 0, 0, 19, 0, 19, 19, 19, 0, 18, 0, 18, 0, 18, 18, 14, 18, 18, 20, 20, 5, 0, 0, 5, 20, 0, 0, 0, 20, 0, 0, 19, 0, 19, 19, 19, 0, 18, 0, 18, 0, 18, 18, 14, 18, 18, 22, 3, 3, 20, 20, 20, 0, 0, 3, 0, 21, 1, 18, 0, 22, 0, 0, 23, 0, 0, 24, 1, 1, 0, 25, 9, 22, 23, 24, 25, 26, 27, 28, 29, 30, 32, 32, 32, 0, 32, 0, 35, 35, 0, 35, 0, 35, 35, 32, 35, 35, 35, 0, 35, 0, 35, 35, 32, 35, 35, 35, 0, 35, 0, 35, 35, 32, 35, 35, 37, 3, 3, 3, 3, 3, 3, 38, 38, 0, 38, 0, 39, 0, 39, 0, 39, 0, 39, 39, 38, 39, 39, 3, 3, 0, 0, 3, 0, 26, 1, 32, 40, 41, 40, 0, 40, 28, 2, 39, 40, 0, 3, 0, 29, 1, 32, 0, 3, 0, 31, 1, 13, 42, 43, 42, 0, 42, 32, 2, 41, 42, 0, 39, 0, 39, 0, 39, 39, 38, 39, 39, 3, 3, 0, 0, 3, 0, 27, 1, 33, 44, 45, 44, 0, 44, 28, 2, 43, 44, 0, 3, 0, 30, 1, 33, 0, 3, 0, 31, 1, 13, 46, 47, 46, 0, 46, 32, 2, 45, 46, 0, 39, 0, 39, 0, 39, 39, 38, 39, 39, 49, 0, 0, 3, 0, 33, 1, 32, 0, 3, 0, 34, 1, 33, 0, 3, 0, 35, 1, 13])
noncomputable def tgLW1 : Bool → Tg
  | true => (gl (gf (gl (gf (gl (gf (gl (gf (gl g0 []) (gl g0 [])) [3, 3, 14, 34, 14, 0, 14, 38, 2, 13, 33]) (gl (gf (gl g0 []) (gl g0 [])) [3, 3, 14, 34, 14, 0, 14, 38, 2, 13, 33])) [0, 3, 0, 36, 1, 13]) (gl g0 [])) [3, 3, 14, 33, 14, 0, 14, 37, 2, 13, 32]) (gl (gf (gl g0 []) (gl (gf (gl (gf (gl g0 []) (gl g0 [])) [3, 3, 14, 34, 14, 0, 14, 38, 2, 13, 33]) (gl (gf (gl g0 []) (gl g0 [])) [3, 3, 14, 34, 14, 0, 14, 38, 2, 13, 33])) [0, 3, 0, 36, 1, 13])) [3, 3, 14, 33, 14, 0, 14, 37, 2, 13, 32])) [1, 0, 0, 3, 3, 4, 4, 3, 1, 1, 1, 0, 1, 0, 7, 7, 7, 7, 7, 1, 0, 0, 3, 0, 0, 1, 0, 1, 0, 1, 9, 9, 9, 0, 9, 0, 10, 10, 10, 10, 10, 9, 0, 8, 11, 8, 0, 8, 0, 11, 8, 11, 12, 12, 0, 12, 0, 13, 0, 0, 13, 0, 13, 0, 13, 13, 12, 13, 13, 15, 15, 4, 6, 6, 6, 6, 15, 0, 0, 4, 0, 0, 6, 0, 6, 0, 6, 0, 3, 0, 0, 6, 9, 1, 5, 0, 14, 0, 14, 14, 14, 0, 13, 0, 13, 0, 13, 13, 12, 13, 13, 15, 15, 4, 6, 6, 6, 6, 15, 0, 0, 4, 0, 0, 6, 0, 6, 0, 6, 0, 4, 0, 0, 6, 10, 1, 5, 0, 14, 0, 14, 14, 14, 0, 13, 0, 13, 0, 13, 13, 12, 13, 13, 15, 15, 4, 6, 6, 6, 6, 15, 0, 0, 4, 0, 0, 6, 0, 6, 0, 6, 0, 5, 0, 0, 6, 11, 1, 5, 0, 14, 0, 14, 14, 14, 0, 13, 0, 13, 0, 13, 13, 12, 13, 13, 15, 15, 4, 6, 6, 6, 6, 15, 0, 0, 4, 0, 0, 6, 0, 6, 0, 6, 0, 6, 0, 0, 6, 12, 1, 5, 0, 14, 0, 14, 14, 14, 0, 13, 0, 13, 0, 13, 13, 12, 13, 13, 15, 15, 4, 6, 6, 6, 6, 15, 0, 0, 4, 0, 0, 6, 0, 6, 0, 6, 0, 7, 0, 0, 6, 13, 1, 5, 0, 14, 0, 14, 14, 14, 0, 13, 0, 13, 0, 13, 13, 12, 13, 13, 15, 15, 4, 6, 6, 6, 6, 15, 0, 0, 4, 0, 0, 6, 0, 6, 0, 6, 0, 8, 0, 0, 6, 14, 1, 5, 0, 14, 0, 14, 14, 14, 0, 13, 0, 13, 0, 13, 13, 12, 13, 13, 17, 3, 3, 15, 15, 15, 0, 0, 3, 0, 0, 1, 0, 1, 0, 1, 0, 39, 0, 0, 0, 5, 5, 3, 14, 14, 0, 14, 0, 18, 0, 0, 18, 0, 18, 0, 18, 18, 14, 18, 18, 20, 20, 5, 0, 0, 5, 0, 0, 20, 0, 0, 0, 15, 0, 0, 19, 0, 19, 19, 19, 0, 18, 0, 18, 0, 18, 18, 14, 18, 18, 20, 20, 5, 0, 0, 5, 0, 0, 20, 0, 0, 0, 16, 0, 0, 19, 0, 19, 19, 19, 0, 18, 0, 18, 0, 18, 18, 14, 18, 18, 20, 20, 5, 0, 0, 5, 0, 0, 20, 0, 0, 0, 17, 0, 0, 19, 0, 19, 19, 19, 0, 18, 0, 18, 0, 18, 18, 14, 18, 18, 20, 20, 5, 0, 0, 5, 0, 0, 20, 0, 0, 0, 18, 0, 0, 19, 0, 19, 19, 19, 0, 18, 0, 18, 0, 18, 18, 14, 18, 18, 20, 20, 5, 0, 0, 5, 0, 0, 20, 0, 0, 0, 19, 0, 0, 19, 0, 19, 19, 19, 0, 18, 0, 18, 0, 18, 18, 14, 18, 18, 20, 20, 5, 0, 0, 5, 0, 0, 20, 0, 0, 0, 20, 0, 0, 19, 0, 19, 19, 19, 0, 18, 0, 18, 0, 18, 18, 14, 18, 18, 22, 3, 3, 20, 20, 20, 0, 0, 3, 0, 21, 1, 18, 0, 22, 0, 0, 23, 0, 0, 24, 1, 1, 0, 25, 9, 22, 23, 24, 25, 26, 27, 28, 29, 30, 32, 32, 32, 0, 32, 0, 35, 35, 0, 35, 0, 35, 35, 32, 35, 35, 35, 0, 35, 0, 35, 35, 32, 35, 35, 35, 0, 35, 0, 35, 35, 32, 35, 35, 37, 3, 3, 3, 3, 3, 3, 38, 38, 0, 38, 0, 39, 0, 39, 0, 39, 0, 39, 39, 38, 39, 39, 3, 3, 0, 0, 3, 0, 26, 1, 32, 40, 41, 40, 0, 40, 28, 2, 39, 40, 0, 3, 0, 29, 1, 32, 0, 3, 0, 31, 1, 13, 42, 43, 42, 0, 42, 32, 2, 41, 42, 0, 39, 0, 39, 0, 39, 39, 38, 39, 39, 3, 3, 0, 0, 3, 0, 27, 1, 33, 44, 45, 44, 0, 44, 28, 2, 43, 44, 0, 3, 0, 30, 1, 33, 0, 3, 0, 31, 1, 13, 46, 47, 46, 0, 46, 32, 2, 45, 46, 0, 39, 0, 39, 0, 39, 39, 38, 39, 39, 49, 0, 0, 3, 0, 33, 1, 32, 0, 3, 0, 34, 1, 33, 0, 3, 0, 35, 1, 13])
  | false => (gl (gf (gl (gf (gl (gf (gl (gf (gl g0 []) (gl g0 [])) [3, 3, 14, 34, 14, 0, 14, 38, 2, 13, 33]) (gl (gf (gl g0 []) (gl g0 [])) [3, 3, 14, 34, 14, 0, 14, 38, 2, 13, 33])) [0, 3, 0, 36, 1, 13]) (gl g0 [])) [3, 3, 14, 33, 14, 0, 14, 37, 2, 13, 32]) (gl (gf (gl g0 []) (gl (gf (gl (gf (gl g0 []) (gl g0 [])) [3, 3, 14, 34, 14, 0, 14, 38, 2, 13, 33]) (gl (gf (gl g0 []) (gl g0 [])) [3, 3, 14, 34, 14, 0, 14, 38, 2, 13, 33])) [0, 3, 0, 36, 1, 13])) [3, 3, 14, 33, 14, 0, 14, 37, 2, 13, 32])) [1, 0, 0, 3, 3, 4, 4, 3, 1, 1, 1, 0, 1, 0, 7, 7, 7, 7, 7, 1, 0, 0, 3, 0, 0, 1, 0, 1, 0, 1, 9, 9, 9, 0, 9, 0, 10, 10, 10, 10, 10, 9, 0, 8, 11, 8, 0, 8, 0, 11, 8, 11, 12, 12, 0, 12, 0, 13, 0, 13, 13, 0, 13, 0, 13, 0, 13, 0, 13, 0, 13, 13, 12, 13, 13, 15, 15, 4, 6, 6, 6, 6, 15, 0, 0, 4, 0, 0, 6, 0, 6, 0, 6, 0, 3, 0, 0, 6, 9, 1, 5, 0, 14, 0, 14, 14, 14, 0, 13, 0, 13, 0, 13, 13, 12, 13, 13, 15, 15, 4, 6, 6, 6, 6, 15, 0, 0, 4, 0, 0, 6, 0, 6, 0, 6, 0, 4, 0, 0, 6, 10, 1, 5, 0, 14, 0, 14, 14, 14, 0, 13, 0, 13, 0, 13, 13, 12, 13, 13, 15, 15, 4, 6, 6, 6, 6, 15, 0, 0, 4, 0, 0, 6, 0, 6, 0, 6, 0, 5, 0, 0, 6, 11, 1, 5, 0, 14, 0, 14, 14, 14, 0, 13, 0, 13, 0, 13, 13, 12, 13, 13, 15, 15, 4, 6, 6, 6, 6, 15, 0, 0, 4, 0, 0, 6, 0, 6, 0, 6, 0, 6, 0, 0, 6, 12, 1, 5, 0, 14, 0, 14, 14, 14, 0, 13, 0, 13, 0, 13, 13, 12, 13, 13, 15, 15, 4, 6, 6, 6, 6, 15, 0, 0, 4, 0, 0, 6, 0, 6, 0, 6, 0, 7, 0, 0, 6, 13, 1, 5, 0, 14, 0, 14, 14, 14, 0, 13, 0, 13, 0, 13, 13, 12, 13, 13, 15, 15, 4, 6, 6, 6, 6, 15, 0, 0, 4, 0, 0, 6, 0, 6, 0, 6, 0, 8, 0, 0, 6, 14, 1, 5, 0, 14, 0, 14, 14, 14, 0, 13, 0, 13, 0, 13, 13, 12, 13, 13, 17, 3, 3, 15, 15, 15, 0, 0, 3, 0, 0, 1, 0, 1, 0, 1, 0, 39, 0, 0, 0, 5, 5, 3, 14, 14, 0, 14, 0, 18, 0, 18, 18, 0, 18, 0, 18, 0, 18, 0, 18, 0, 18, 18, 14, 18, 18, 20, 20, 5, 0, 0, 5, 0, 0, 20, 0, 0, 0, 15, 0, 0, 19, 0, 19, 19, 19, 0, 18, 0, 18, 0, 18, 18, 14, 18, 18, 20, 20, 5, 0, 0, 5, 0, 0, 20, 0, 0, 0, 16, 0, 0, 19, 0, 19, 19, 19, 0, 18, 0, 18, 0, 18, 18, 14, 18, 18, 20, 20, 5, 0, 0, 5, 0, 0, 20, 0, 0, 0, 17, 0, 0, 19, 0, 19, 19, 19, 0, 18, 0, 18, 0, 18, 18, 14, 18, 18, 20, 20, 5, 0, 0, 5, 0, 0, 20, 0, 0, 0, 18, 0, 0, 19, 0, 19, 19, 19, 0, 18, 0, 18, 0, 18, 18, 14, 18, 18, 20, 20, 5, 0, 0, 5, 0, 0, 20, 0, 0, 0, 19, 0, 0, 19, 0, 19, 19, 19, 0, 18, 0, 18, 0, 18, 18, 14, 18, 18, 20, 20, 5, 0, 0, 5, 0, 0, 20, 0, 0, 0, 20, 0, 0, 19, 0, 19, 19, 19, 0, 18, 0, 18, 0, 18, 18, 14, 18, 18, 22, 3, 3, 20, 20, 20, 0, 0, 3, 0, 21, 1, 18, 0, 22, 0, 0, 23, 0, 0, 24, 1, 1, 0, 25, 9, 22, 23, 24, 25, 26, 27, 28, 29, 30, 32, 32, 32, 0, 32, 0, 35, 35, 0, 35, 0, 35, 35, 32, 35, 35, 35, 0, 35, 0, 35, 35, 32, 35, 35, 35, 0, 35, 0, 35, 35, 32, 35, 35, 37, 3, 3, 3, 3, 3, 3, 38, 38, 0, 38, 0, 39, 0, 39, 0, 39, 0, 39, 39, 38, 39, 39, 3, 3, 0, 0, 3, 0, 26, 1, 32, 40, 41, 40, 0, 40, 28, 2, 39, 40, 0, 3, 0, 29, 1, 32, 0, 3, 0, 31, 1, 13, 42, 43, 42, 0, 42, 32, 2, 41, 42, 0, 39, 0, 39, 0, 39, 39, 38, 39, 39, 3, 3, 0, 0, 3, 0, 27, 1, 33, 44, 45, 44, 0, 44, 28, 2, 43, 44, 0, 3, 0, 30, 1, 33, 0, 3, 0, 31, 1, 13, 46, 47, 46, 0, 46, 32, 2, 45, 46, 0, 39, 0, 39, 0, 39, 39, 38, 39, 39, 49, 0, 0, 3, 0, 33, 1, 32, 0, 3, 0, 34, 1, 33, 0, 3, 0, 35, 1, 13])
noncomputable def tgLW2 : Bool → Tg
  | true => (gl (gf (gl (gf (gl (gf (gl (gf (gl g0 []) (gl g0 [])) [3, 3, 14, 34, 14, 0, 14, 38, 2, 13, 33]) (gl (gf (gl g0 []) (gl g0 [])) [3, 3, 14, 34, 14, 0, 14, 38, 2, 13, 33])) [0, 3, 0, 36, 1, 13]) (gl g0 [])) [3, 3, 14, 33, 14, 0, 14, 37, 2, 13, 32]) (gl (gf (gl g0 []) (gl (gf (gl (gf (gl g0 []) (gl g0 [])) [3, 3, 14, 34, 14, 0, 14, 38, 2, 13, 33]) (gl (gf (gl g0 []) (gl g0 [])) [3, 3, 14, 34, 14, 0, 14, 38, 2, 13, 33])) [0, 3, 0, 36, 1, 13])) [3, 3, 14, 33, 14, 0, 14, 37, 2, 13, 32])) [1, 0, 0, 3, 3, 4, 4, 3, 1, 1, 1, 0, 1, 0, 7, 7, 7, 7, 7, 1, 0, 0, 3, 0, 0, 1, 0, 1, 0, 1, 9, 9, 9, 0, 9, 0, 10, 10, 10, 10, 10, 9, 0, 8, 11, 8, 0, 8, 0, 11, 8, 11, 12, 12, 0, 12, 0, 13, 0, 0, 13, 0, 13, 0, 13, 13, 12, 13, 13, 15, 15, 4, 6, 6, 6, 6, 15, 0, 0, 4, 0, 0, 6, 0, 6, 0, 6, 0, 3, 0, 0, 6, 9, 1, 5, 0, 14, 0, 14, 14, 14, 0, 13, 0, 13, 0, 13, 13, 12, 13, 13, 15, 15, 4, 6, 6, 6, 6, 15, 0, 0, 4, 0, 0, 6, 0, 6, 0, 6, 0, 4, 0, 0, 6, 10, 1, 5, 0, 14, 0, 14, 14, 14, 0, 13, 0, 13, 0, 13, 13, 12, 13, 13, 15, 15, 4, 6, 6, 6, 6, 15, 0, 0, 4, 0, 0, 6, 0, 6, 0, 6, 0, 5, 0, 0, 6, 11, 1, 5, 0, 14, 0, 14, 14, 14, 0, 13, 0, 13, 0, 13, 13, 12, 13, 13, 15, 15, 4, 6, 6, 6, 6, 15, 0, 0, 4, 0, 0, 6, 0, 6, 0, 6, 0, 6, 0, 0, 6, 12, 1, 5, 0, 14, 0, 14, 14, 14, 0, 13, 0, 13, 0, 13, 13, 12, 13, 13, 15, 15, 4, 6, 6, 6, 6, 15, 0, 0, 4, 0, 0, 6, 0, 6, 0, 6, 0, 7, 0, 0, 6, 13, 1, 5, 0, 14, 0, 14, 14, 14, 0, 13, 0, 13, 0, 13, 13, 12, 13, 13, 15, 15, 4, 6, 6, 6, 6, 15, 0, 0, 4, 0, 0, 6, 0, 6, 0, 6, 0, 8, 0, 0, 6, 14, 1, 5, 0, 14, 0, 14, 14, 14, 0, 13, 0, 13, 0, 13, 13, 12, 13, 13, 17, 3, 3, 15, 15, 15, 0, 0, 3, 0, 0, 1, 0, 1, 0, 1, 0, 39, 0, 0, 0, 5, 5, 3, 14, 14, 0, 14, 0, 18, 0, 0, 18, 0, 18, 0, 18, 18, 14, 18, 18, 20, 20, 5, 0, 0, 5, 0, 0, 20, 0, 0, 0, 15, 0, 0, 19, 0, 19, 19, 19, 0, 18, 0, 18, 0, 18, 18, 14, 18, 18, 20, 20, 5, 0, 0, 5, 0, 0, 20, 0, 0, 0, 16, 0, 0, 19, 0, 19, 19, 19, 0, 18, 0, 18, 0, 18, 18, 14, 18, 18, 20, 20, 5, 0, 0, 5, 0, 0, 20, 0, 0, 0, 17, 0, 0, 19, 0, 19, 19, 19, 0, 18, 0, 18, 0, 18, 18, 14, 18, 18, 20, 20, 5, 0, 0, 5, 0, 0, 20, 0, 0, 0, 18, 0, 0, 19, 0, 19, 19, 19, 0, 18, 0, 18, 0, 18, 18, 14, 18, 18, 20, 20, 5, 0, 0, 5, 0, 0, 20, 0, 0, 0, 19, 0, 0, 19, 0, 19, 19, 19, 0, 18, 0, 18, 0, 18, 18, 14, 18, 18, 20, 20, 5, 0, 0, 5, 0, 0, 20, 0, 0, 0, 20, 0, 0, 19, 0, 19, 19, 19, 0, 18, 0, 18, 0, 18, 18, 14, 18, 18, 22, 3, 3, 20, 20, 20, 0, 0, 3, 0, 21, 1, 18, 0, 22, 0, 0, 23, 0, 0, 24, 1, 1, 0, 25, 9, 22, 23, 24, 25, 26, 27, 28, 29, 30, 32, 32, 32, 0, 32, 0, 35, 35, 0, 35, 0, 35, 35, 32, 35, 35, 35, 0, 35, 0, 35, 35, 32, 35, 35, 35, 0, 35, 0, 35, 35, 32, 35, 35, 37, 3, 3, 3, 3, 3, 3, 38, 38, 0, 38, 0, 39, 0, 39, 0, 39, 0, 39, 39, 38, 39, 39, 3, 3, 0, 0, 3, 0, 26, 1, 32, 40, 41, 40, 0, 40, 28, 2, 39, 40, 0, 3, 0, 29, 1, 32, 0, 3, 0, 31, 1, 13, 42, 43, 42, 0, 42, 32, 2, 41, 42, 0, 39, 0, 39, 0, 39, 39, 38, 39, 39, 3, 3, 0, 0, 3, 0, 27, 1, 33, 44, 45, 44, 0, 44, 28, 2, 43, 44, 0, 3, 0, 30, 1, 33, 0, 3, 0, 31, 1, 13, 46, 47, 46, 0, 46, 32, 2, 45, 46, 0, 39, 0, 39, 0, 39, 39, 38, 39, 39, 49, 0, 0, 3, 0, 33, 1, 32, 0, 3, 0, 34, 1, 33, 0, 3, 0, 35, 1, 13])
  | false => (gl (gf (gl (gf (gl (gf (gl (gf (gl g0 []) (gl g0 [])) [3, 3, 14, 34, 14, 0, 14, 38, 2, 13, 33]) (gl (gf (gl g0 []) (gl g0 [])) [3, 3, 14, 34, 14, 0, 14, 38, 2, 13, 33])) [0, 3, 0, 36, 1, 13]) (gl g0 [])) [3, 3, 14, 33, 14, 0, 14, 37, 2, 13, 32]) (gl (gf (gl g0 []) (gl (gf (gl (gf (gl g0 []) (gl g0 [])) [3, 3, 14, 34, 14, 0, 14, 38, 2, 13, 33]) (gl (gf (gl g0 []) (gl g0 [])) [3, 3, 14, 34, 14, 0, 14, 38, 2, 13, 33])) [0, 3, 0, 36, 1, 13])) [3, 3, 14, 33, 14, 0, 14, 37, 2, 13, 32])) [1, 0, 0, 3, 3, 4, 4, 3, 1, 1, 1, 0, 1, 0, 7, 7, 7, 7, 7, 1, 0, 0, 3, 0, 0, 1, 0, 1, 0, 1, 9, 9, 9, 0, 9, 0, 10, 10, 10, 10, 10, 9, 0, 8, 11, 8, 0, 8, 0, 11, 8, 11, 12, 12, 0, 12, 0, 13, 0, 13, 13, 0, 13, 0, 13, 0, 13, 0, 13, 0, 13, 13, 12, 13, 13, 15, 15, 4, 6, 6, 6, 6, 15, 0, 0, 4, 0, 0, 6, 0, 6, 0, 6, 0, 3, 0, 0, 6, 9, 1, 5, 0, 14, 0, 14, 14, 14, 0, 13, 0, 13, 0, 13, 13, 12, 13, 13, 15, 15, 4, 6, 6, 6, 6, 15, 0, 0, 4, 0, 0, 6, 0, 6, 0, 6, 0, 4, 0, 0, 6, 10, 1, 5, 0, 14, 0, 14, 14, 14, 0, 13, 0, 13, 0, 13, 13, 12, 13, 13, 15, 15, 4, 6, 6, 6, 6, 15, 0, 0, 4, 0, 0, 6, 0, 6, 0, 6, 0, 5, 0, 0, 6, 11, 1, 5, 0, 14, 0, 14, 14, 14, 0, 13, 0, 13, 0, 13, 13, 12, 13, 13, 15, 15, 4, 6, 6, 6, 6, 15, 0, 0, 4, 0, 0, 6, 0, 6, 0, 6, 0, 6, 0, 0, 6, 12, 1, 5, 0, 14, 0, 14, 14, 14, 0, 13, 0, 13, 0, 13, 13, 12, 13, 13, 15, 15, 4, 6, 6, 6, 6, 15, 0, 0, 4, 0, 0, 6, 0, 6, 0, 6, 0, 7, 0, 0, 6, 13, 1, 5, 0, 14, 0, 14, 14, 14, 0, 13, 0, 13, 0, 13, 13, 12, 13, 13, 15, 15, 4, 6, 6, 6, 6, 15, 0, 0, 4, 0, 0, 6, 0, 6, 0, 6, 0, 8, 0, 0, 6, 14, 1, 5, 0, 14, 0, 14, 14, 14, 0, 13, 0, 13, 0, 13, 13, 12, 13, 13, 17, 3, 3, 15, 15, 15, 0, 0, 3, 0, 0, 1, 0, 1, 0, 1, 0, 39, 0, 0, 0, 5, 5, 3, 14, 14, 0, 14, 0, 18, 0, 18, 18, 0, 18, 0, 18, 0, 18, 0, 18, 0, 18, 18, 14, 18, 18, 20, 20, 5, 0, 0, 5, 0, 0, 20, 0, 0, 0, 15, 0, 0, 19, 0, 19, 19, 19, 0, 18, 0, 18, 0, 18, 18, 14, 18, 18, 20, 20, 5, 0, 0, 5, 0, 0, 20, 0, 0, 0, 16, 0, 0, 19, 0, 19, 19, 19, 0, 18, 0, 18, 0, 18, 18, 14, 18, 18, 20, 20, 5, 0, 0, 5, 0, 0, 20, 0, 0, 0, 17, 0, 0, 19, 0, 19, 19, 19, 0, 18, 0, 18, 0, 18, 18, 14, 18, 18, 20, 20, 5, 0, 0, 5, 0, 0, 20, 0, 0, 0, 18, 0, 0, 19, 0, 19, 19, 19, 0, 18, 0, 18, 0, 18, 18, 14, 18, 18, 20, 20, 5, 0, 0, 5, 0, 0, 20, 0, 0, 0, 19, 0, 0, 19, 0, 19, 19, 19, 0, 18, 0, 18, 0, 18, 18, 14, 18, 18, 20, 20, 5, 0, 0, 5, 0, 0, 20, 0, 0, 0, 20, 0, 0, 19, 0, 19, 19, 19, 0, 18, 0, 18, 0, 18, 18, 14, 18, 18, 22, 3, 3, 20, 20, 20, 0, 0, 3, 0, 21, 1, 18, 0, 22, 0, 0, 23, 0, 0, 24, 1, 1, 0, 25, 9, 22, 23, 24, 25, 26, 27, 28, 29, 30, 32, 32, 32, 0, 32, 0, 35, 35, 0, 35, 0, 35, 35, 32, 35, 35, 35, 0, 35, 0, 35, 35, 32, 35, 35, 35, 0, 35, 0, 35, 35, 32, 35, 35, 37, 3, 3, 3, 3, 3, 3, 38, 38, 0, 38, 0, 39, 0, 39, 0, 39, 0, 39, 39, 38, 39, 39, 3, 3, 0, 0, 3, 0, 26, 1, 32, 40, 41, 40, 0, 40, 28, 2, 39, 40, 0, 3, 0, 29, 1, 32, 0, 3, 0, 31, 1, 13, 42, 43, 42, 0, 42, 32, 2, 41, 42, 0, 39, 0, 39, 0, 39, 39, 38, 39, 39, 3, 3, 0, 0, 3, 0, 27, 1, 33, 44, 45, 44, 0, 44, 28, 2, 43, 44, 0, 3, 0, 30, 1, 33, 0, 3, 0, 31, 1, 13, 46, 47, 46, 0, 46, 32, 2, 45, 46, 0, 39, 0, 39, 0, 39, 39, 38, 39, 39, 49, 0, 0, 3, 0, 33, 1, 32, 0, 3, 0, 34, 1, 33, 0, 3, 0, 35, 1, 13])
noncomputable def tgLW3 : Bool → Tg
  | true => (gl (gf (gl (gf (gl (gf (gl (gf (gl g0 []) (gl g0 [])) [3, 3, 14, 34, 14, 0, 14, 38, 2, 13, 33]) (gl (gf (gl g0 []) (gl g0 [])) [3, 3, 14, 34, 14, 0, 14, 38, 2, 13, 33])) [0, 3, 0, 36, 1, 13]) (gl g0 [])) [3, 3, 14, 33, 14, 0, 14, 37, 2, 13, 32]) (gl (gf (gl g0 []) (gl (gf (gl (gf (gl g0 []) (gl g0 [])) [3, 3, 14, 34, 14, 0, 14, 38, 2, 13, 33]) (gl (gf (gl g0 []) (gl g0 [])) [3, 3, 14, 34, 14, 0, 14, 38, 2, 13, 33])) [0, 3, 0, 36, 1, 13])) [3, 3, 14, 33, 14, 0, 14, 37, 2, 13, 32])) [1, 0, 0, 3, 3, 4, 4, 3, 1, 1, 1, 0, 1, 0, 7, 7, 7, 7, 7, 1, 0, 0, 3, 0, 0, 1, 0, 1, 0, 1, 9, 9, 9, 0, 9, 0, 10, 10, 10, 10, 10, 9, 0, 8, 11, 8, 0, 8, 0, 11, 8, 11, 12, 12, 0, 12, 0, 13, 0, 0, 13, 0, 13, 0, 13, 13, 12, 13, 13, 15, 15, 4, 6, 6, 6, 6, 15, 0, 0, 4, 0, 0, 6, 0, 6, 0, 6, 0, 3, 0, 0, 6, 9, 1, 5, 0, 14, 0, 14, 14, 14, 0, 13, 0, 13, 0, 13, 13, 12, 13, 13, 15, 15, 4, 6, 6, 6, 6, 15, 0, 0, 4, 0, 0, 6, 0, 6, 0, 6, 0, 4, 0, 0, 6, 10, 1, 5, 0, 14, 0, 14, 14, 14, 0, 13, 0, 13, 0, 13, 13, 12, 13, 13, 15, 15, 4, 6, 6, 6, 6, 15, 0, 0, 4, 0, 0, 6, 0, 6, 0, 6, 0, 5, 0, 0, 6, 11, 1, 5, 0, 14, 0, 14, 14, 14, 0, 13, 0, 13, 0, 13, 13, 12, 13, 13, 15, 15, 4, 6, 6, 6, 6, 15, 0, 0, 4, 0, 0, 6, 0, 6, 0, 6, 0, 6, 0, 0, 6, 12, 1, 5, 0, 14, 0, 14, 14, 14, 0, 13, 0, 13, 0, 13, 13, 12, 13, 13, 15, 15, 4, 6, 6, 6, 6, 15, 0, 0, 4, 0, 0, 6, 0, 6, 0, 6, 0, 7, 0, 0, 6, 13, 1, 5, 0, 14, 0, 14, 14, 14, 0, 13, 0, 13, 0, 13, 13, 12, 13, 13, 15, 15, 4, 6, 6, 6, 6, 15, 0, 0, 4, 0, 0, 6, 0, 6, 0, 6, 0, 8, 0, 0, 6, 14, 1, 5, 0, 14, 0, 14, 14, 14, 0, 13, 0, 13, 0, 13, 13, 12, 13, 13, 17, 3, 3, 15, 15, 15, 0, 0, 3, 0, 0, 1, 0, 1, 0, 1, 0, 39, 0, 0, 0, 5, 5, 3, 14, 14, 0, 14, 0, 18, 0, 0, 18, 0, 18, 0, 18, 18, 14, 18, 18, 20, 20, 5, 0, 0, 5, 20, 0, 0, 0, 15, 0, 0, 19, 0, 19, 19, 19, 0, 18, 0, 18, 0, 18, 18, 14, 18, 18, 20, 20, 5, 0, 0, 5, 20, 0, 0, 0, 16, 0, 0, 19, 0, 19, 19, 19, 0, 18, 0, 18, 0, 18, 18, 14, 18, 18, 20, 20, 5, 0, 0, 5, 20, 0, 0, 0, 17, 0, 0, 19, 0, 19, 19, 19, 0, 18, 0, 18, 0, 18, 18, 14, 18, 18, 20, 20, 5, 0, 0, 5, 20, 0, 0, 0, 18, 0, 0, 19, 0, 19, 19, 19, 0, 18, 0, 18, 0, 18, 18, 14, 18, 18, 20, 20, 5, 0, 0, 5, 20, 0, 0, 0, 19, 0, 0, 19, 0, 19, 19, 19, 0, 18, 0, 18, 0, 18, 18, 14, 18, 18, 20, 20, 5, 0, 0, 5, 20, 0, 0, 0, 20, 0, 0, 19, 0, 19, 19, 19, 0, 18, 0, 18, 0, 18, 18, 14, 18, 18, 22, 3, 3, 20, 20, 20, 0, 0, 3, 0, 21, 1, 18, 0, 22, 0, 0, 23, 0, 0, 24, 1, 1, 0, 25, 9, 22, 23, 24, 25, 26, 27, 28, 29, 30, 32, 32, 32, 0, 32, 0, 35, 35, 0, 35, 0, 35, 35, 32, 35, 35, 35, 0, 35, 0, 35, 35, 32, 35, 35, 35, 0, 35, 0, 35, 35, 32, 35, 35, 37, 3, 3, 3, 3, 3, 3, 38, 38, 0, 38, 0, 39, 0, 39, 0, 39, 0, 39, 39, 38, 39, 39, 3, 3, 0, 0, 3, 0, 26, 1, 32, 40, 41, 40, 0, 40, 28, 2, 39, 40, 0, 3, 0, 29, 1, 32, 0, 3, 0, 31, 1, 13, 42, 43, 42, 0, 42, 32, 2, 41, 42, 0, 39, 0, 39, 0, 39, 39, 38, 39, 39, 3, 3, 0, 0, 3, 0, 27, 1, 33, 44, 45, 44, 0, 44, 28, 2, 43, 44, 0, 3, 0, 30, 1, 33, 0, 3, 0, 31, 1, 13, 46, 47, 46, 0, 46, 32, 2, 45, 46, 0, 39, 0, 39, 0, 39, 39, 38, 39, 39, 49, 0, 0, 3, 0, 33, 1, 32, 0, 3, 0, 34, 1, 33, 0, 3, 0, 35, 1, 13])
  | false => (gl (gf (gl (gf (gl (gf (gl (gf (gl g0 []) (gl g0 [])) [3, 3, 14, 34, 14, 0, 14, 38, 2, 13, 33]) (gl (gf (gl g0 []) (gl g0 [])) [3, 3, 14, 34, 14, 0, 14, 38, 2, 13, 33])) [0, 3, 0, 36, 1, 13]) (gl g0 [])) [3, 3, 14, 33, 14, 0, 14, 37, 2, 13, 32]) (gl (gf (gl g0 []) (gl (gf (gl (gf (gl g0 []) (gl g0 [])) [3, 3, 14, 34, 14, 0, 14, 38, 2, 13, 33]) (gl (gf (gl g0 []) (gl g0 [])) [3, 3, 14, 34, 14, 0, 14, 38, 2, 13, 33])) [0, 3, 0, 36, 1, 13])) [3, 3, 14, 33, 14, 0, 14, 37, 2, 13, 32])) [1, 0, 0, 3, 3, 4, 4, 3, 1, 1, 1, 0, 1, 0, 7, 7, 7, 7, 7, 1, 0, 0, 3, 0, 0, 1, 0, 1, 0, 1, 9, 9, 9, 0, 9, 0, 10, 10, 10, 10, 10, 9, 0, 8, 11, 8, 0, 8, 0, 11, 8, 11, 12, 12, 0, 12, 0, 13, 0, 13, 13, 0, 13, 0, 13, 0, 13, 0, 13, 0, 13, 13, 12, 13, 13, 15, 15, 4, 6, 6, 6, 6, 15, 0, 0, 4, 0, 0, 6, 0, 6, 0, 6, 0, 3, 0, 0, 6, 9, 1, 5, 0, 14, 0, 14, 14, 14, 0, 13, 0, 13, 0, 13, 13, 12, 13, 13, 15, 15, 4, 6, 6, 6, 6, 15, 0, 0, 4, 0, 0, 6, 0, 6, 0, 6, 0, 4, 0, 0, 6, 10, 1, 5, 0, 14, 0, 14, 14, 14, 0, 13, 0, 13, 0, 13, 13, 12, 13, 13, 15, 15, 4, 6, 6, 6, 6, 15, 0, 0, 4, 0, 0, 6, 0, 6, 0, 6, 0, 5, 0, 0, 6, 11, 1, 5, 0, 14, 0, 14, 14, 14, 0, 13, 0, 13, 0, 13, 13, 12, 13, 13, 15, 15, 4, 6, 6, 6, 6, 15, 0, 0, 4, 0, 0, 6, 0, 6, 0, 6, 0, 6, 0, 0, 6, 12, 1, 5, 0, 14, 0, 14, 14, 14, 0, 13, 0, 13, 0, 13, 13, 12, 13, 13, 15, 15, 4, 6, 6, 6, 6, 15, 0, 0, 4, 0, 0, 6, 0, 6, 0, 6, 0, 7, 0, 0, 6, 13, 1, 5, 0, 14, 0, 14, 14, 14, 0, 13, 0, 13, 0, 13, 13, 12, 13, 13, 15, 15, 4, 6, 6, 6, 6, 15, 0, 0, 4, 0, 0, 6, 0, 6, 0, 6, 0, 8, 0, 0, 6, 14, 1, 5, 0, 14, 0, 14, 14, 14, 0, 13, 0, 13, 0, 13, 13, 12, 13, 13, 17, 3, 3, 15, 15, 15, 0, 0, 3, 0, 0, 1, 0, 1, 0, 1, 0, 39, 0, 0, 0, 5, 5, 3, 14, 14, 0, 14, 0, 18, 0, 18, 18, 0, 18, 0, 18, 0, 18, 0, 18, 0, 18, 18, 14, 18, 18, 20, 20, 5, 0, 0, 5, 20, 0, 0, 0, 15, 0, 0, 19, 0, 19, 19, 19, 0, 18, 0, 18, 0, 18, 18, 14, 18, 18, 20, 20, 5, 0, 0, 5, 20, 0, 0, 0, 16, 0, 0, 19, 0, 19, 19, 19, 0, 18, 0, 18, 0, 18, 18, 14, 18, 18, 20, 20, 5, 0, 0, 5, 20, 0, 0, 0, 17, 0, 0, 19, 0, 19, 19, 19, 0, 18, 0, 18, 0, 18, 18, 14, 18, 18, 20, 20, 5, 0, 0, 5, 20, 0, 0, 0, 18, 0, 0, 19, 0, 19, 19, 19, 0, 18, 0, 18, 0, 18, 18, 14, 18, 18, 20, 20, 5, 0, 0, 5, 20, 0, 0, 0, 19, 0, 0, 19, 0, 19, 19, 19, 0, 18, 0, 18, 0, 18, 18, 14, 18, 18, 20, 20, 5, 0, 0, 5, 20, 0, 0, 0, 20, 0, 0, 19, 0, 19, 19, 19, 0, 18, 0, 18, 0, 18, 18, 14, 18, 18, 22, 3, 3, 20, 20, 20, 0, 0, 3, 0, 21, 1, 18, 0, 22, 0, 0, 23, 0, 0, 24, 1, 1, 0, 25, 9, 22, 23, 24, 25, 26, 27, 28, 29, 30, 32, 32, 32, 0, 32, 0, 35, 35, 0, 35, 0, 35, 35, 32, 35, 35, 35, 0, 35, 0, 35, 35, 32, 35, 35, 35, 0, 35, 0, 35, 35, 32, 35, 35, 37, 3, 3, 3, 3, 3, 3, 38, 38, 0, 38, 0, 39, 0, 39, 0, 39, 0, 39, 39, 38, 39, 39, 3, 3, 0, 0, 3, 0, 26, 1, 32, 40, 41, 40, 0, 40, 28, 2, 39, 40, 0, 3, 0, 29, 1, 32, 0, 3, 0, 31, 1, 13, 42, 43, 42, 0, 42, 32, 2, 41, 42, 0, 39, 0, 39, 0, 39, 39, 38, 39, 39, 3, 3, 0, 0, 3, 0, 27, 1, 33, 44, 45, 44, 0, 44, 28, 2, 43, 44, 0, 3, 0, 30, 1, 33, 0, 3, 0, 31, 1, 13, 46, 47, 46, 0, 46, 32, 2, 45, 46, 0, 39, 0, 39, 0, 39, 39, 38, 39, 39, 49, 0, 0, 3, 0, 33, 1, 32, 0, 3, 0, 34, 1, 33, 0, 3, 0, 35, 1, 13])
noncomputable def tgLW4 : Bool → Tg
  | true => (gl (gf (gl (gf (gl (gf (gl (gf (gl g0 []) (gl g0 [])) [3, 3, 14, 34, 14, 0, 14, 38, 2, 13, 33]) (gl (gf (gl g0 []) (gl g0 [])) [3, 3, 14, 34, 14, 0, 14, 38, 2, 13, 33])) [0, 3, 0, 36, 1, 13]) (gl g0 [])) [3, 3, 14, 33, 14, 0, 14, 37, 2, 13, 32]) (gl (gf (gl g0 []) (gl (gf (gl (gf (gl g0 []) (gl g0 [])) [3, 3, 14, 34, 14, 0, 14, 38, 2, 13, 33]) (gl (gf (gl g0 []) (gl g0 [])) [3, 3, 14, 34, 14, 0, 14, 38, 2, 13, 33])) [0, 3, 0, 36, 1, 13])) [3, 3, 14, 33, 14, 0, 14, 37, 2, 13, 32])) [1, 0, 0, 3, 3, 4, 4, 3, 1, 1, 1, 0, 1, 0, 7, 7, 7, 7, 7, 1, 0, 0, 3, 0, 0, 1, 0, 1, 0, 1, 9, 9, 9, 0, 9, 0, 10, 10, 10, 10, 10, 9, 0, 8, 11, 8, 0, 8, 0, 11, 8, 11, 12, 12, 0, 12, 0, 13, 0, 0, 13, 0, 13, 0, 13, 13, 12, 13, 13, 15, 15, 4, 6, 6, 6, 6, 15, 0, 0, 4, 0, 0, 6, 0, 6, 0, 6, 0, 3, 0, 0, 6, 9, 1, 5, 0, 14, 0, 14, 14, 14, 0, 13, 0, 13, 0, 13, 13, 12, 13, 13, 15, 15, 4, 6, 6, 6, 6, 15, 0, 0, 4, 0, 0, 6, 0, 6, 0, 6, 0, 4, 0, 0, 6, 10, 1, 5, 0, 14, 0, 14, 14, 14, 0, 13, 0, 13, 0, 13, 13, 12, 13, 13, 15, 15, 4, 6, 6, 6, 6, 15, 0, 0, 4, 0, 0, 6, 0, 6, 0, 6, 0, 5, 0, 0, 6, 11, 1, 5, 0, 14, 0, 14, 14, 14, 0, 13, 0, 13, 0, 13, 13, 12, 13, 13, 15, 15, 4, 6, 6, 6, 6, 15, 0, 0, 4, 0, 0, 6, 0, 6, 0, 6, 0, 6, 0, 0, 6, 12, 1, 5, 0, 14, 0, 14, 14, 14, 0, 13, 0, 13, 0, 13, 13, 12, 13, 13, 15, 15, 4, 6, 6, 6, 6, 15, 0, 0, 4, 0, 0, 6, 0, 6, 0, 6, 0, 7, 0, 0, 6, 13, 1, 5, 0, 14, 0, 14, 14, 14, 0, 13, 0, 13, 0, 13, 13, 12, 13, 13, 15, 15, 4, 6, 6, 6, 6, 15, 0, 0, 4, 0, 0, 6, 0, 6, 0, 6, 0, 8, 0, 0, 6, 14, 1, 5, 0, 14, 0, 14, 14, 14, 0, 13, 0, 13, 0, 13, 13, 12, 13, 13, 17, 3, 3, 15, 15, 15, 0, 0, 3, 0, 0, 1, 0, 1, 0, 1, 0, 39, 0, 0, 0, 5, 5, 3, 14, 14, 0, 14, 0, 18, 0, 0, 18, 0, 18, 0, 18, 18, 14, 18, 18, 20, 20, 5, 0, 0, 5, 0, 0, 20, 0, 0, 0, 15, 0, 0, 19, 0, 19, 19, 19, 0, 18, 0, 18, 0, 18, 18, 14, 18, 18, 20, 20, 5, 0, 0, 5, 0, 0, 20, 0, 0, 0, 16, 0, 0, 19, 0, 19, 19, 19, 0, 18, 0, 18, 0, 18, 18, 14, 18, 18, 20, 20, 5, 0, 0, 5, 0, 0, 20, 0, 0, 0, 17, 0, 0, 19, 0, 19, 19, 19, 0, 18, 0, 18, 0, 18, 18, 14, 18, 18, 20, 20, 5, 0, 0, 5, 0, 0, 20, 0, 0, 0, 18, 0, 0, 19, 0, 19, 19, 19, 0, 18, 0, 18, 0, 18, 18, 14, 18, 18, 20, 20, 5, 0, 0, 5, 0, 0, 20, 0, 0, 0, 19, 0, 0, 19, 0, 19, 19, 19, 0, 18, 0, 18, 0, 18, 18, 14, 18, 18, 20, 20, 5, 0, 0, 5, 0, 0, 20, 0, 0, 0, 20, 0, 0, 19, 0, 19, 19, 19, 0, 18, 0, 18, 0, 18, 18, 14, 18, 18, 22, 3, 3, 20, 20, 20, 0, 0, 3, 0, 21, 1, 18, 0, 22, 0, 0, 23, 0, 0, 24, 1, 1, 0, 25, 9, 22, 23, 24, 25, 26, 27, 28, 29, 30, 32, 32, 32, 0, 32, 0, 35, 35, 0, 35, 0, 35, 35, 32, 35, 35, 35, 0, 35, 0, 35, 35, 32, 35, 35, 35, 0, 35, 0, 35, 35, 32, 35, 35, 37, 3, 3, 3, 3, 3, 3, 38, 38, 0, 38, 0, 39, 0, 39, 0, 39, 0, 39, 39, 38, 39, 39, 3, 3, 0, 0, 3, 0, 26, 1, 32, 40, 41, 40, 0, 40, 28, 2, 39, 40, 0, 3, 0, 29, 1, 32, 0, 3, 0, 31, 1, 13, 42, 43, 42, 0, 42, 32, 2, 41, 42, 0, 39, 0, 39, 0, 39, 39, 38, 39, 39, 3, 3, 0, 0, 3, 0, 27, 1, 33, 44, 45, 44, 0, 44, 28, 2, 43, 44, 0, 3, 0, 30, 1, 33, 0, 3, 0, 31, 1, 13, 46, 47, 46, 0, 46, 32, 2, 45, 46, 0, 39, 0, 39, 0, 39, 39, 38, 39, 39, 49, 0, 0, 3, 0, 33, 1, 32, 0, 3, 0, 34, 1, 33, 0, 3, 0, 35, 1, 13])
  | false => (gl (gf (gl (gf (gl (gf (gl (gf (gl g0 []) (gl g0 [])) [3, 3, 14, 34, 14, 0, 14, 38, 2, 13, 33]) (gl (gf (gl g0 []) (gl g0 [])) [3, 3, 14, 34, 14, 0, 14, 38, 2, 13, 33])) [0, 3, 0, 36, 1, 13]) (gl g0 [])) [3, 3, 14, 33, 14, 0, 14, 37, 2, 13, 32]) (gl (gf (gl g0 []) (gl (gf (gl (gf (gl g0 []) (gl g0 [])) [3, 3, 14, 34, 14, 0, 14, 38, 2, 13, 33]) (gl (gf (gl g0 []) (gl g0 [])) [3, 3, 14, 34, 14, 0, 14, 38, 2, 13, 33])) [0, 3, 0, 36, 1, 13])) [3, 3, 14, 33, 14, 0, 14, 37, 2, 13, 32])) [1, 0, 0, 3, 3, 4, 4, 3, 1, 1, 1, 0, 1, 0, 7, 7, 7, 7, 7, 1, 0, 0, 3, 0, 0, 1, 0, 1, 0, 1, 9, 9, 9, 0, 9, 0, 10, 10, 10, 10, 10, 9, 0, 8, 11, 8, 0, 8, 0, 11, 8, 11, 12, 12, 0, 12, 0, 13, 0, 13, 13, 0, 13, 0, 13, 0, 13, 0, 13, 0, 13, 13, 12, 13, 13, 15, 15, 4, 6, 6, 6, 6, 15, 0, 0, 4, 0, 0, 6, 0, 6, 0, 6, 0, 3, 0, 0, 6, 9, 1, 5, 0, 14, 0, 14, 14, 14, 0, 13, 0, 13, 0, 13, 13, 12, 13, 13, 15, 15, 4, 6, 6, 6, 6, 15, 0, 0, 4, 0, 0, 6, 0, 6, 0, 6, 0, 4, 0, 0, 6, 10, 1, 5, 0, 14, 0, 14, 14, 14, 0, 13, 0, 13, 0, 13, 13, 12, 13, 13, 15, 15, 4, 6, 6, 6, 6, 15, 0, 0, 4, 0, 0, 6, 0, 6, 0, 6, 0, 5, 0, 0, 6, 11, 1, 5, 0, 14, 0, 14, 14, 14, 0, 13, 0, 13, 0, 13, 13, 12, 13, 13, 15, 15, 4, 6, 6, 6, 6, 15, 0, 0, 4, 0, 0, 6, 0, 6, 0, 6, 0, 6, 0, 0, 6, 12, 1, 5, 0, 14, 0, 14, 14, 14, 0, 13, 0, 13, 0, 13, 13, 12, 13, 13, 15, 15, 4, 6, 6, 6, 6, 15, 0, 0, 4, 0, 0, 6, 0, 6, 0, 6, 0, 7, 0, 0, 6, 13, 1, 5, 0, 14, 0, 14, 14, 14, 0, 13, 0, 13, 0, 13, 13, 12, 13, 13, 15, 15, 4, 6, 6, 6, 6, 15, 0, 0, 4, 0, 0, 6, 0, 6, 0, 6, 0, 8, 0, 0, 6, 14, 1, 5, 0, 14, 0, 14, 14, 14, 0, 13, 0, 13, 0, 13, 13, 12, 13, 13, 17, 3, 3, 15, 15, 15, 0, 0, 3, 0, 0, 1, 0, 1, 0, 1, 0, 39, 0, 0, 0, 5, 5, 3, 14, 14, 0, 14, 0, 18, 0, 18, 18, 0, 18, 0, 18, 0, 18, 0, 18, 0, 18, 18, 14, 18, 18, 20, 20, 5, 0, 0, 5, 0, 0, 20, 0, 0, 0, 15, 0, 0, 19, 0, 19, 19, 19, 0, 18, 0, 18, 0, 18, 18, 14, 18, 18, 20, 20, 5, 0, 0, 5, 0, 0, 20, 0, 0, 0, 16, 0, 0, 19, 0, 19, 19, 19, 0, 18, 0, 18, 0, 18, 18, 14, 18, 18, 20, 20, 5, 0, 0, 5, 0, 0, 20, 0, 0, 0, 17, 0, 0, 19, 0, 19, 19, 19, 0, 18, 0, 18, 0, 18, 18, 14, 18, 18, 20, 20, 5, 0, 0, 5, 0, 0, 20, 0, 0, 0, 18, 0, 0, 19, 0, 19, 19, 19, 0, 18, 0, 18, 0, 18, 18, 14, 18, 18, 20, 20, 5, 0, 0, 5, 0, 0, 20, 0, 0, 0, 19, 0, 0, 19, 0, 19, 19, 19, 0, 18, 0, 18, 0, 18, 18, 14, 18, 18, 20, 20, 5, 0, 0, 5, 0, 0, 20, 0, 0, 0, 20, 0, 0, 19, 0, 19, 19, 19, 0, 18, 0, 18, 0, 18, 18, 14, 18, 18, 22, 3, 3, 20, 20, 20, 0, 0, 3, 0, 21, 1, 18, 0, 22, 0, 0, 23, 0, 0, 24, 1, 1, 0, 25, 9, 22, 23, 24, 25, 26, 27, 28, 29, 30, 32, 32, 32, 0, 32, 0, 35, 35, 0, 35, 0, 35, 35, 32, 35, 35, 35, 0, 35, 0, 35, 35, 32, 35, 35, 35, 0, 35, 0, 35, 35, 32, 35, 35, 37, 3, 3, 3, 3, 3, 3, 38, 38, 0, 38, 0, 39, 0, 39, 0, 39, 0, 39, 39, 38, 39, 39, 3, 3, 0, 0, 3, 0, 26, 1, 32, 40, 41, 40, 0, 40, 28, 2, 39, 40, 0, 3, 0, 29, 1, 32, 0, 3, 0, 31, 1, 13, 42, 43, 42, 0, 42, 32, 2, 41, 42, 0, 39, 0, 39, 0, 39, 39, 38, 39, 39, 3, 3, 0, 0, 3, 0, 27, 1, 33, 44, 45, 44, 0, 44, 28, 2, 43, 44, 0, 3, 0, 30, 1, 33, 0, 3, 0, 31, 1, 13, 46, 47, 46, 0, 46, 32, 2, 45, 46, 0, 39, 0, 39, 0, 39, 39, 38, 39, 39, 49, 0, 0, 3, 0, 33, 1, 32, 0, 3, 0, 34, 1, 33, 0, 3, 0, 35, 1, 13])
noncomputable def tgLW5 : Bool → Tg
  | true => (gl (gf (gl (gf (gl (gf (gl (gf (gl g0 []) (gl g0 [])) [3, 3, 14, 34, 14, 0, 14, 38, 2, 13, 33]) (gl (gf (gl g0 []) (gl g0 [])) [3, 3, 14, 34, 14, 0, 14, 38, 2, 13, 33])) [0, 3, 0, 36, 1, 13]) (gl g0 [])) [3, 3, 14, 33, 14, 0, 14, 37, 2, 13, 32]) (gl (gf (gl g0 []) (gl (gf (gl (gf (gl g0 []) (gl g0 [])) [3, 3, 14, 34, 14, 0, 14, 38, 2, 13, 33]) (gl (gf (gl g0 []) (gl g0 [])) [3, 3, 14, 34, 14, 0, 14, 38, 2, 13, 33])) [0, 3, 0, 36, 1, 13])) [3, 3, 14, 33, 14, 0, 14, 37, 2, 13, 32])) [1, 0, 0, 3, 3, 4, 4, 3, 1, 1, 1, 0, 1, 0, 7, 7, 7, 7, 7, 1, 0, 0, 3, 0, 0, 1, 0, 1, 0, 1, 9, 9, 9, 0, 9, 0, 10, 10, 10, 10, 10, 9, 0, 8, 11, 8, 0, 8, 0, 11, 8, 11, 12, 12, 0, 12, 0, 13, 0, 0, 13, 0, 13, 0, 13, 13, 12, 13, 13, 15, 15, 4, 6, 6, 6, 6, 15, 0, 0, 4, 0, 0, 6, 0, 6, 0, 6, 0, 3, 0, 0, 6, 9, 1, 5, 0, 14, 0, 14, 14, 14, 0, 13, 0, 13, 0, 13, 13, 12, 13, 13, 15, 15, 4, 6, 6, 6, 6, 15, 0, 0, 4, 0, 0, 6, 0, 6, 0, 6, 0, 4, 0, 0, 6, 10, 1, 5, 0, 14, 0, 14, 14, 14, 0, 13, 0, 13, 0, 13, 13, 12, 13, 13, 15, 15, 4, 6, 6, 6, 6, 15, 0, 0, 4, 0, 0, 6, 0, 6, 0, 6, 0, 5, 0, 0, 6, 11, 1, 5, 0, 14, 0, 14, 14, 14, 0, 13, 0, 13, 0, 13, 13, 12, 13, 13, 15, 15, 4, 6, 6, 6, 6, 15, 0, 0, 4, 0, 0, 6, 0, 6, 0, 6, 0, 6, 0, 0, 6, 12, 1, 5, 0, 14, 0, 14, 14, 14, 0, 13, 0, 13, 0, 13, 13, 12, 13, 13, 15, 15, 4, 6, 6, 6, 6, 15, 0, 0, 4, 0, 0, 6, 0, 6, 0, 6, 0, 7, 0, 0, 6, 13, 1, 5, 0, 14, 0, 14, 14, 14, 0, 13, 0, 13, 0, 13, 13, 12, 13, 13, 15, 15, 4, 6, 6, 6, 6, 15, 0, 0, 4, 0, 0, 6, 0, 6, 0, 6, 0, 8, 0, 0, 6, 14, 1, 5, 0, 14, 0, 14, 14, 14, 0, 13, 0, 13, 0, 13, 13, 12, 13, 13, 17, 3, 3, 15, 15, 15, 0, 0, 3, 0, 0, 1, 0, 1, 0, 1, 0, 39, 0, 0, 0, 5, 5, 3, 14, 14, 0, 14, 0, 18, 0, 0, 18, 0, 18, 0, 18, 18, 14, 18, 18, 20, 20, 5, 0, 0, 5, 0, 0, 20, 0, 0, 0, 15, 0, 0, 19, 0, 19, 19, 19, 0, 18, 0, 18, 0, 18, 18, 14, 18, 18, 20, 20, 5, 0, 0, 5, 0, 0, 20, 0, 0, 0, 16, 0, 0, 19, 0, 19, 19, 19, 0, 18, 0, 18, 0, 18, 18, 14, 18, 18, 20, 20, 5, 0, 0, 5, 0, 0, 20, 0, 0, 0, 17, 0, 0, 19, 0, 19, 19, 19, 0, 18, 0, 18, 0, 18, 18, 14, 18, 18, 20, 20, 5, 0, 0, 5, 0, 0, 20, 0, 0, 0, 18, 0, 0, 19, 0, 19, 19, 19, 0, 18, 0, 18, 0, 18, 18, 14, 18, 18, 20, 20, 5, 0, 0, 5, 0, 0, 20, 0, 0, 0, 19, 0, 0, 19, 0, 19, 19, 19, 0, 18, 0, 18, 0, 18, 18, 14, 18, 18, 20, 20, 5, 0, 0, 5, 0, 0, 20, 0, 0, 0, 20, 0, 0, 19, 0, 19, 19, 19, 0, 18, 0, 18, 0, 18, 18, 14, 18, 18, 22, 3, 3, 20, 20, 20, 0, 0, 3, 0, 21, 1, 18, 0, 22, 0, 0, 23, 0, 0, 24, 1, 1, 0, 25, 9, 22, 23, 24, 25, 26, 27, 28, 29, 30, 32, 32, 32, 0, 32, 0, 35, 35, 0, 35, 0, 35, 35, 32, 35, 35, 35, 0, 35, 0, 35, 35, 32, 35, 35, 35, 0, 35, 0, 35, 35, 32, 35, 35, 37, 3, 3, 3, 3, 3, 3, 38, 38, 0, 38, 0, 39, 0, 39, 0, 39, 0, 39, 39, 38, 39, 39, 3, 3, 0, 0, 3, 0, 26, 1, 32, 40, 41, 40, 0, 40, 28, 2, 39, 40, 0, 3, 0, 29, 1, 32, 0, 3, 0, 31, 1, 13, 42, 43, 42, 0, 42, 32, 2, 41, 42, 0, 39, 0, 39, 0, 39, 39, 38, 39, 39, 3, 3, 0, 0, 3, 0, 27, 1, 33, 44, 45, 44, 0, 44, 28, 2, 43, 44, 0, 3, 0, 30, 1, 33, 0, 3, 0, 31, 1, 13, 46, 47, 46, 0, 46, 32, 2, 45, 46, 0, 39, 0, 39, 0, 39, 39, 38, 39, 39, 49, 0, 0, 3, 0, 33, 1, 32, 0, 3, 0, 34, 1, 33, 0, 3, 0, 35, 1, 13])
  | false => (gl (gf (gl (gf (gl (gf (gl (gf (gl g0 []) (gl g0 [])) [3, 3, 14, 34, 14, 0, 14, 38, 2, 13, 33]) (gl (gf (gl g0 []) (gl g0 [])) [3, 3, 14, 34, 14, 0, 14, 38, 2, 13, 33])) [0, 3, 0, 36, 1, 13]) (gl g0 [])) [3, 3, 14, 33, 14, 0, 14, 37, 2, 13, 32]) (gl (gf (gl g0 []) (gl (gf (gl (gf (gl g0 []) (gl g0 [])) [3, 3, 14, 34, 14, 0, 14, 38, 2, 13, 33]) (gl (gf (gl g0 []) (gl g0 [])) [3, 3, 14, 34, 14, 0, 14, 38, 2, 13, 33])) [0, 3, 0, 36, 1, 13])) [3, 3, 14, 33, 14, 0, 14, 37, 2, 13, 32])) [1, 0, 0, 3, 3, 4, 4, 3, 1, 1, 1, 0, 1, 0, 7, 7, 7, 7, 7, 1, 0, 0, 3, 0, 0, 1, 0, 1, 0, 1, 9, 9, 9, 0, 9, 0, 10, 10, 10, 10, 10, 9, 0, 8, 11, 8, 0, 8, 0, 11, 8, 11, 12, 12, 0, 12, 0, 13, 0, 13, 13, 0, 13, 0, 13, 0, 13, 0, 13, 0, 13, 13, 12, 13, 13, 15, 15, 4, 6, 6, 6, 6, 15, 0, 0, 4, 0, 0, 6, 0, 6, 0, 6, 0, 3, 0, 0, 6, 9, 1, 5, 0, 14, 0, 14, 14, 14, 0, 13, 0, 13, 0, 13, 13, 12, 13, 13, 15, 15, 4, 6, 6, 6, 6, 15, 0, 0, 4, 0, 0, 6, 0, 6, 0, 6, 0, 4, 0, 0, 6, 10, 1, 5, 0, 14, 0, 14, 14, 14, 0, 13, 0, 13, 0, 13, 13, 12, 13, 13, 15, 15, 4, 6, 6, 6, 6, 15, 0, 0, 4, 0, 0, 6, 0, 6, 0, 6, 0, 5, 0, 0, 6, 11, 1, 5, 0, 14, 0, 14, 14, 14, 0, 13, 0, 13, 0, 13, 13, 12, 13, 13, 15, 15, 4, 6, 6, 6, 6, 15, 0, 0, 4, 0, 0, 6, 0, 6, 0, 6, 0, 6, 0, 0, 6, 12, 1, 5, 0, 14, 0, 14, 14, 14, 0, 13, 0, 13, 0, 13, 13, 12, 13, 13, 15, 15, 4, 6, 6, 6, 6, 15, 0, 0, 4, 0, 0, 6, 0, 6, 0, 6, 0, 7, 0, 0, 6, 13, 1, 5, 0, 14, 0, 14, 14, 14, 0, 13, 0, 13, 0, 13, 13, 12, 13, 13, 15, 15, 4, 6, 6, 6, 6, 15, 0, 0, 4, 0, 0, 6, 0, 6, 0, 6, 0, 8, 0, 0, 6, 14, 1, 5, 0, 14, 0, 14, 14, 14, 0, 13, 0, 13, 0, 13, 13, 12, 13, 13, 17, 3, 3, 15, 15, 15, 0, 0, 3, 0, 0, 1, 0, 1, 0, 1, 0, 39, 0, 0, 0, 5, 5, 3, 14, 14, 0, 14, 0, 18, 0, 18, 18, 0, 18, 0, 18, 0, 18, 0, 18, 0, 18, 18, 14, 18, 18, 20, 20, 5, 0, 0, 5, 0, 0, 20, 0, 0, 0, 15, 0, 0, 19, 0, 19, 19, 19, 0, 18, 0, 18, 0, 18, 18, 14, 18, 18, 20, 20, 5, 0, 0, 5, 0, 0, 20, 0, 0, 0, 16, 0, 0, 19, 0, 19, 19, 19, 0, 18, 0, 18, 0, 18, 18, 14, 18, 18, 20, 20, 5, 0, 0, 5, 0, 0, 20, 0, 0, 0, 17, 0, 0, 19, 0, 19, 19, 19, 0, 18, 0, 18, 0, 18, 18, 14, 18, 18, 20, 20, 5, 0, 0, 5, 0, 0, 20, 0, 0, 0, 18, 0, 0, 19, 0, 19, 19, 19, 0, 18, 0, 18, 0, 18, 18, 14, 18, 18, 20, 20, 5, 0, 0, 5, 0, 0, 20, 0, 0, 0, 19, 0, 0, 19, 0, 19, 19, 19, 0, 18, 0, 18, 0, 18, 18, 14, 18, 18, 20, 20, 5, 0, 0, 5, 0, 0, 20, 0, 0, 0, 20, 0, 0, 19, 0, 19, 19, 19, 0, 18, 0, 18, 0, 18, 18, 14, 18, 18, 22, 3, 3, 20, 20, 20, 0, 0, 3, 0, 21, 1, 18, 0, 22, 0, 0, 23, 0, 0, 24, 1, 1, 0, 25, 9, 22, 23, 24, 25, 26, 27, 28, 29, 30, 32, 32, 32, 0, 32, 0, 35, 35, 0, 35, 0, 35, 35, 32, 35, 35, 35, 0, 35, 0, 35, 35, 32, 35, 35, 35, 0, 35, 0, 35, 35, 32, 35, 35, 37, 3, 3, 3, 3, 3, 3, 38, 38, 0, 38, 0, 39, 0, 39, 0, 39, 0, 39, 39, 38, 39, 39, 3, 3, 0, 0, 3, 0, 26, 1, 32, 40, 41, 40, 0, 40, 28, 2, 39, 40, 0, 3, 0, 29, 1, 32, 0, 3, 0, 31, 1, 13, 42, 43, 42, 0, 42, 32, 2, 41, 42, 0, 39, 0, 39, 0, 39, 39, 38, 39, 39, 3, 3, 0, 0, 3, 0, 27, 1, 33, 44, 45, 44, 0, 44, 28, 2, 43, 44, 0, 3, 0, 30, 1, 33, 0, 3, 0, 31, 1, 13, 46, 47, 46, 0, 46, 32, 2, 45, 46, 0, 39, 0, 39, 0, 39, 39, 38, 39, 39, 49, 0, 0, 3, 0, 33, 1, 32, 0, 3, 0, 34, 1, 33, 0, 3, 0, 35, 1, 13])
noncomputable def tgLW6 : Bool → Tg
  | true => (gl (gf (gl (gf (gl (gf (gl (gf (gl g0 []) (gl g0 [])) [3, 3, 14, 34, 14, 0, 14, 38, 2, 13, 33]) (gl (gf (gl g0 []) (gl g0 [])) [3, 3, 14, 34, 14, 0, 14, 38, 2, 13, 33])) [0, 3, 0, 36, 1, 13]) (gl g0 [])) [3, 3, 14, 33, 14, 0, 14, 37, 2, 13, 32]) (gl (gf (gl g0 []) (gl (gf (gl (gf (gl g0 []) (gl g0 [])) [3, 3, 14, 34, 14, 0, 14, 38, 2, 13, 33]) (gl (gf (gl g0 []) (gl g0 [])) [3, 3, 14, 34, 14, 0, 14, 38, 2, 13, 33])) [0, 3, 0, 36, 1, 13])) [3, 3, 14, 33, 14, 0, 14, 37, 2, 13, 32])) [1, 0, 0, 3, 3, 4, 4, 3, 1, 1, 1, 0, 1, 39, 2, 0, 6, 0, 0, 3, 0, 40, 1, 0, 9, 9, 9, 0, 9, 41, 2, 8, 9, 0, 8, 11, 8, 0, 8, 0, 11, 8, 11, 12, 12, 0, 12, 0, 13, 0, 0, 13, 0, 13, 0, 13, 13, 12, 13, 13, 15, 15, 4, 6, 6, 6, 6, 15, 0, 0, 4, 0, 0, 6, 0, 6, 0, 6, 0, 3, 0, 0, 6, 9, 1, 5, 0, 14, 0, 14, 14, 14, 0, 13, 0, 13, 0, 13, 13, 12, 13, 13, 15, 15, 4, 6, 6, 6, 6, 15, 0, 0, 4, 0, 0, 6, 0, 6, 0, 6, 0, 4, 0, 0, 6, 10, 1, 5, 0, 14, 0, 14, 14, 14, 0, 13, 0, 13, 0, 13, 13, 12, 13, 13, 15, 15, 4, 6, 6, 6, 6, 15, 0, 0, 4, 0, 0, 6, 0, 6, 0, 6, 0, 5, 0, 0, 6, 11, 1, 5, 0, 14, 0, 14, 14, 14, 0, 13, 0, 13, 0, 13, 13, 12, 13, 13, 15, 15, 4, 6, 6, 6, 6, 15, 0, 0, 4, 0, 0, 6, 0, 6, 0, 6, 0, 6, 0, 0, 6, 12, 1, 5, 0, 14, 0, 14, 14, 14, 0, 13, 0, 13, 0, 13, 13, 12, 13, 13, 15, 15, 4, 6, 6, 6, 6, 15, 0, 0, 4, 0, 0, 6, 0, 6, 0, 6, 0, 7, 0, 0, 6, 13, 1, 5, 0, 14, 0, 14, 14, 14, 0, 13, 0, 13, 0, 13, 13, 12, 13, 13, 15, 15, 4, 6, 6, 6, 6, 15, 0, 0, 4, 0, 0, 6, 0, 6, 0, 6, 0, 8, 0, 0, 6, 14, 1, 5, 0, 14, 0, 14, 14, 14, 0, 13, 0, 13, 0, 13, 13, 12, 13, 13, 17, 3, 3, 15, 15, 15, 0, 0, 3, 0, 40, 1, 0, 0, 42, 0, 0, 0, 5, 5, 3, 14, 14, 0, 14, 0, 18, 0, 0, 18, 0, 18, 0, 18, 18, 14, 18, 18, 20, 20, 5, 0, 0, 5, 20, 0, 0, 0, 15, 0, 0, 19, 0, 19, 19, 19, 0, 18, 0, 18, 0, 18, 18, 14, 18, 18, 20, 20, 5, 0, 0, 5, 20, 0, 0, 0, 16, 0, 0, 19, 0, 19, 19, 19, 0, 18, 0, 18, 0, 18, 18, 14, 18, 18, 20, 20, 5, 0, 0, 5, 20, 0, 0, 0, 17, 0, 0, 19, 0, 19, 19, 19, 0, 18, 0, 18, 0, 18, 18, 14, 18, 18, 20, 20, 5, 0, 0, 5, 20, 0, 0, 0, 18, 0, 0, 19, 0, 19, 19, 19, 0, 18, 0, 18, 0, 18, 18, 14, 18, 18, 20, 20, 5, 0, 0, 5, 20, 0, 0, 0, 19, 0, 0, 19, 0, 19, 19, 19, 0, 18, 0, 18, 0, 18, 18, 14, 18, 18, 20, 20, 5, 0, 0, 5, 20, 0, 0, 0, 20, 0, 0, 19, 0, 19, 19, 19, 0, 18, 0, 18, 0, 18, 18, 14, 18, 18, 22, 3, 3, 20, 20, 20, 0, 0, 3, 0, 21, 1, 18, 0, 22, 0, 0, 23, 0, 0, 24, 1, 1, 0, 25, 9, 22, 23, 24, 25, 26, 27, 28, 29, 30, 32, 32, 32, 0, 32, 0, 35, 35, 0, 35, 0, 35, 35, 32, 35, 35, 35, 0, 35, 0, 35, 35, 32, 35, 35, 35, 0, 35, 0, 35, 35, 32, 35, 35, 37, 3, 3, 3, 3, 3, 3, 38, 38, 0, 38, 0, 39, 0, 39, 0, 39, 0, 39, 39, 38, 39, 39, 3, 3, 0, 0, 3, 0, 26, 1, 32, 40, 41, 40, 0, 40, 28, 2, 39, 40, 0, 3, 0, 29, 1, 32, 0, 3, 0, 31, 1, 13, 42, 43, 42, 0, 42, 32, 2, 41, 42, 0, 39, 0, 39, 0, 39, 39, 38, 39, 39, 3, 3, 0, 0, 3, 0, 27, 1, 33, 44, 45, 44, 0, 44, 28, 2, 43, 44, 0, 3, 0, 30, 1, 33, 0, 3, 0, 31, 1, 13, 46, 47, 46, 0, 46, 32, 2, 45, 46, 0, 39, 0, 39, 0, 39, 39, 38, 39, 39, 49, 0, 0, 3, 0, 33, 1, 32, 0, 3, 0, 34, 1, 33, 0, 3, 0, 35, 1, 13])
  | false => (gl (gf (gl (gf (gl (gf (gl (gf (gl g0 []) (gl g0 [])) [3, 3, 14, 34, 14, 0, 14, 38, 2, 13, 33]) (gl (gf (gl g0 []) (gl g0 [])) [3, 3, 14, 34, 14, 0, 14, 38, 2, 13, 33])) [0, 3, 0, 36, 1, 13]) (gl g0 [])) [3, 3, 14, 33, 14, 0, 14, 37, 2, 13, 32]) (gl (gf (gl g0 []) (gl (gf (gl (gf (gl g0 []) (gl g0 [])) [3, 3, 14, 34, 14, 0, 14, 38, 2, 13, 33]) (gl (gf (gl g0 []) (gl g0 [])) [3, 3, 14, 34, 14, 0, 14, 38, 2, 13, 33])) [0, 3, 0, 36, 1, 13])) [3, 3, 14, 33, 14, 0, 14, 37, 2, 13, 32])) [1, 0, 0, 3, 3, 4, 4, 3, 1, 1, 1, 0, 1, 39, 2, 0, 6, 0, 0, 3, 0, 40, 1, 0, 9, 9, 9, 0, 9, 41, 2, 8, 9, 0, 8, 11, 8, 0, 8, 0, 11, 8, 11, 12, 12, 0, 12, 0, 13, 0, 13, 13, 0, 13, 0, 13, 0, 13, 0, 13, 0, 13, 13, 12, 13, 13, 15, 15, 4, 6, 6, 6, 6, 15, 0, 0, 4, 0, 0, 6, 0, 6, 0, 6, 0, 3, 0, 0, 6, 9, 1, 5, 0, 14, 0, 14, 14, 14, 0, 13, 0, 13, 0, 13, 13, 12, 13, 13, 15, 15, 4, 6, 6, 6, 6, 15, 0, 0, 4, 0, 0, 6, 0, 6, 0, 6, 0, 4, 0, 0, 6, 10, 1, 5, 0, 14, 0, 14, 14, 14, 0, 13, 0, 13, 0, 13, 13, 12, 13, 13, 15, 15, 4, 6, 6, 6, 6, 15, 0, 0, 4, 0, 0, 6, 0, 6, 0, 6, 0, 5, 0, 0, 6, 11, 1, 5, 0, 14, 0, 14, 14, 14, 0, 13, 0, 13, 0, 13, 13, 12, 13, 13, 15, 15, 4, 6, 6, 6, 6, 15, 0, 0, 4, 0, 0, 6, 0, 6, 0, 6, 0, 6, 0, 0, 6, 12, 1, 5, 0, 14, 0, 14, 14, 14, 0, 13, 0, 13, 0, 13, 13, 12, 13, 13, 15, 15, 4, 6, 6, 6, 6, 15, 0, 0, 4, 0, 0, 6, 0, 6, 0, 6, 0, 7, 0, 0, 6, 13, 1, 5, 0, 14, 0, 14, 14, 14, 0, 13, 0, 13, 0, 13, 13, 12, 13, 13, 15, 15, 4, 6, 6, 6, 6, 15, 0, 0, 4, 0, 0, 6, 0, 6, 0, 6, 0, 8, 0, 0, 6, 14, 1, 5, 0, 14, 0, 14, 14, 14, 0, 13, 0, 13, 0, 13, 13, 12, 13, 13, 17, 3, 3, 15, 15, 15, 0, 0, 3, 0, 40, 1, 0, 0, 42, 0, 0, 0, 5, 5, 3, 14, 14, 0, 14, 0, 18, 0, 18, 18, 0, 18, 0, 18, 0, 18, 0, 18, 0, 18, 18, 14, 18, 18, 20, 20, 5, 0, 0, 5, 20, 0, 0, 0, 15, 0, 0, 19, 0, 19, 19, 19, 0, 18, 0, 18, 0, 18, 18, 14, 18, 18, 20, 20, 5, 0, 0, 5, 20, 0, 0, 0, 16, 0, 0, 19, 0, 19, 19, 19, 0, 18, 0, 18, 0, 18, 18, 14, 18, 18, 20, 20, 5, 0, 0, 5, 20, 0, 0, 0, 17, 0, 0, 19, 0, 19, 19, 19, 0, 18, 0, 18, 0, 18, 18, 14, 18, 18, 20, 20, 5, 0, 0, 5, 20, 0, 0, 0, 18, 0, 0, 19, 0, 19, 19, 19, 0, 18, 0, 18, 0, 18, 18, 14, 18, 18, 20, 20, 5, 0, 0, 5, 20, 0, 0, 0, 19, 0, 0, 19, 0, 19, 19, 19, 0, 18, 0, 18, 0, 18, 18, 14, 18, 18, 20, 20, 5, 0, 0, 5, 20, 0, 0, 0, 20, 0, 0, 19, 0, 19, 19, 19, 0, 18, 0, 18, 0, 18, 18, 14, 18, 18, 22, 3, 3, 20, 20, 20, 0, 0, 3, 0, 21, 1, 18, 0, 22, 0, 0, 23, 0, 0, 24, 1, 1, 0, 25, 9, 22, 23, 24, 25, 26, 27, 28, 29, 30, 32, 32, 32, 0, 32, 0, 35, 35, 0, 35, 0, 35, 35, 32, 35, 35, 35, 0, 35, 0, 35, 35, 32, 35, 35, 35, 0, 35, 0, 35, 35, 32, 35, 35, 37, 3, 3, 3, 3, 3, 3, 38, 38, 0, 38, 0, 39, 0, 39, 0, 39, 0, 39, 39, 38, 39, 39, 3, 3, 0, 0, 3, 0, 26, 1, 32, 40, 41, 40, 0, 40, 28, 2, 39, 40, 0, 3, 0, 29, 1, 32, 0, 3, 0, 31, 1, 13, 42, 43, 42, 0, 42, 32, 2, 41, 42, 0, 39, 0, 39, 0, 39, 39, 38, 39, 39, 3, 3, 0, 0, 3, 0, 27, 1, 33, 44, 45, 44, 0, 44, 28, 2, 43, 44, 0, 3, 0, 30, 1, 33, 0, 3, 0, 31, 1, 13, 46, 47, 46, 0, 46, 32, 2, 45, 46, 0, 39, 0, 39, 0, 39, 39, 38, 39, 39, 49, 0, 0, 3, 0, 33, 1, 32, 0, 3, 0, 34, 1, 33, 0, 3, 0, 35, 1, 13])
noncomputable def tgLW7 : Bool → Tg
  | true => (gl (gf (gl (gf (gl (gf (gl (gf (gl g0 []) (gl g0 [])) [3, 3, 14, 34, 14, 0, 14, 38, 2, 13, 33]) (gl (gf (gl g0 []) (gl g0 [])) [3, 3, 14, 34, 14, 0, 14, 38, 2, 13, 33])) [0, 3, 0, 36, 1, 13]) (gl g0 [])) [3, 3, 14, 33, 14, 0, 14, 37, 2, 13, 32]) (gl (gf (gl g0 []) (gl (gf (gl (gf (gl g0 []) (gl g0 [])) [3, 3, 14, 34, 14, 0, 14, 38, 2, 13, 33]) (gl (gf (gl g0 []) (gl g0 [])) [3, 3, 14, 34, 14, 0, 14, 38, 2, 13, 33])) [0, 3, 0, 36, 1, 13])) [3, 3, 14, 33, 14, 0, 14, 37, 2, 13, 32])) [1, 0, 0, 3, 3, 4, 4, 3, 1, 1, 1, 0, 1, 39, 2, 0, 6, 0, 0, 3, 0, 40, 1, 0, 9, 9, 9, 0, 9, 41, 2, 8, 9, 0, 8, 11, 8, 0, 8, 0, 11, 8, 11, 12, 12, 0, 12, 0, 13, 0, 0, 13, 0, 13, 0, 13, 13, 12, 13, 13, 15, 15, 4, 6, 6, 6, 6, 15, 0, 0, 4, 0, 0, 6, 0, 6, 0, 6, 0, 3, 0, 0, 6, 9, 1, 5, 0, 14, 0, 14, 14, 14, 0, 13, 0, 13, 0, 13, 13, 12, 13, 13, 15, 15, 4, 6, 6, 6, 6, 15, 0, 0, 4, 0, 0, 6, 0, 6, 0, 6, 0, 4, 0, 0, 6, 10, 1, 5, 0, 14, 0, 14, 14, 14, 0, 13, 0, 13, 0, 13, 13, 12, 13, 13, 15, 15, 4, 6, 6, 6, 6, 15, 0, 0, 4, 0, 0, 6, 0, 6, 0, 6, 0, 5, 0, 0, 6, 11, 1, 5, 0, 14, 0, 14, 14, 14, 0, 13, 0, 13, 0, 13, 13, 12, 13, 13, 15, 15, 4, 6, 6, 6, 6, 15, 0, 0, 4, 0, 0, 6, 0, 6, 0, 6, 0, 6, 0, 0, 6, 12, 1, 5, 0, 14, 0, 14, 14, 14, 0, 13, 0, 13, 0, 13, 13, 12, 13, 13, 15, 15, 4, 6, 6, 6, 6, 15, 0, 0, 4, 0, 0, 6, 0, 6, 0, 6, 0, 7, 0, 0, 6, 13, 1, 5, 0, 14, 0, 14, 14, 14, 0, 13, 0, 13, 0, 13, 13, 12, 13, 13, 15, 15, 4, 6, 6, 6, 6, 15, 0, 0, 4, 0, 0, 6, 0, 6, 0, 6, 0, 8, 0, 0, 6, 14, 1, 5, 0, 14, 0, 14, 14, 14, 0, 13, 0, 13, 0, 13, 13, 12, 13, 13, 17, 3, 3, 15, 15, 15, 0, 0, 3, 0, 40, 1, 0, 0, 42, 0, 0, 0, 5, 5, 3, 14, 14, 0, 14, 0, 18, 0, 0, 18, 0, 18, 0, 18, 18, 14, 18, 18, 20, 20, 5, 0, 0, 5, 0, 0, 20, 0, 0, 0, 15, 0, 0, 19, 0, 19, 19, 19, 0, 18, 0, 18, 0, 18, 18, 14, 18, 18, 20, 20, 5, 0, 0, 5, 0, 0, 20, 0, 0, 0, 16, 0, 0, 19, 0, 19, 19, 19, 0, 18, 0, 18, 0, 18, 18, 14, 18, 18, 20, 20, 5, 0, 0, 5, 0, 0, 20, 0, 0, 0, 17, 0, 0, 19, 0, 19, 19, 19, 0, 18, 0, 18, 0, 18, 18, 14, 18, 18, 20, 20, 5, 0, 0, 5, 0, 0, 20, 0, 0, 0, 18, 0, 0, 19, 0, 19, 19, 19, 0, 18, 0, 18, 0, 18, 18, 14, 18, 18, 20, 20, 5, 0, 0, 5, 0, 0, 20, 0, 0, 0, 19, 0, 0, 19, 0, 19, 19, 19, 0, 18, 0, 18, 0, 18, 18, 14, 18, 18, 20, 20, 5, 0, 0, 5, 0, 0, 20, 0, 0, 0, 20, 0, 0, 19, 0, 19, 19, 19, 0, 18, 0, 18, 0, 18, 18, 14, 18, 18, 22, 3, 3, 20, 20, 20, 0, 0, 3, 0, 21, 1, 18, 0, 22, 0, 0, 23, 0, 0, 24, 1, 1, 0, 25, 9, 22, 23, 24, 25, 26, 27, 28, 29, 30, 32, 32, 32, 0, 32, 0, 35, 35, 0, 35, 0, 35, 35, 32, 35, 35, 35, 0, 35, 0, 35, 35, 32, 35, 35, 35, 0, 35, 0, 35, 35, 32, 35, 35, 37, 3, 3, 3, 3, 3, 3, 38, 38, 0, 38, 0, 39, 0, 39, 0, 39, 0, 39, 39, 38, 39, 39, 3, 3, 0, 0, 3, 0, 26, 1, 32, 40, 41, 40, 0, 40, 28, 2, 39, 40, 0, 3, 0, 29, 1, 32, 0, 3, 0, 31, 1, 13, 42, 43, 42, 0, 42, 32, 2, 41, 42, 0, 39, 0, 39, 0, 39, 39, 38, 39, 39, 3, 3, 0, 0, 3, 0, 27, 1, 33, 44, 45, 44, 0, 44, 28, 2, 43, 44, 0, 3, 0, 30, 1, 33, 0, 3, 0, 31, 1, 13, 46, 47, 46, 0, 46, 32, 2, 45, 46, 0, 39, 0, 39, 0, 39, 39, 38, 39, 39, 49, 0, 0, 3, 0, 33, 1, 32, 0, 3, 0, 34, 1, 33, 0, 3, 0, 35, 1, 13])
  | false => (gl (gf (gl (gf (gl (gf (gl (gf (gl g0 []) (gl g0 [])) [3, 3, 14, 34, 14, 0, 14, 38, 2, 13, 33]) (gl (gf (gl g0 []) (gl g0 [])) [3, 3, 14, 34, 14, 0, 14, 38, 2, 13, 33])) [0, 3, 0, 36, 1, 13]) (gl g0 [])) [3, 3, 14, 33, 14, 0, 14, 37, 2, 13, 32]) (gl (gf (gl g0 []) (gl (gf (gl (gf (gl g0 []) (gl g0 [])) [3, 3, 14, 34, 14, 0, 14, 38, 2, 13, 33]) (gl (gf (gl g0 []) (gl g0 [])) [3, 3, 14, 34, 14, 0, 14, 38, 2, 13, 33])) [0, 3, 0, 36, 1, 13])) [3, 3, 14, 33, 14, 0, 14, 37, 2, 13, 32])) [1, 0, 0, 3, 3, 4, 4, 3, 1, 1, 1, 0, 1, 39, 2, 0, 6, 0, 0, 3, 0, 40, 1, 0, 9, 9, 9, 0, 9, 41, 2, 8, 9, 0, 8, 11, 8, 0, 8, 0, 11, 8, 11, 12, 12, 0, 12, 0, 13, 0, 13, 13, 0, 13, 0, 13, 0, 13, 0, 13, 0, 13, 13, 12, 13, 13, 15, 15, 4, 6, 6, 6, 6, 15, 0, 0, 4, 0, 0, 6, 0, 6, 0, 6, 0, 3, 0, 0, 6, 9, 1, 5, 0, 14, 0, 14, 14, 14, 0, 13, 0, 13, 0, 13, 13, 12, 13, 13, 15, 15, 4, 6, 6, 6, 6, 15, 0, 0, 4, 0, 0, 6, 0, 6, 0, 6, 0, 4, 0, 0, 6, 10, 1, 5, 0, 14, 0, 14, 14, 14, 0, 13, 0, 13, 0, 13, 13, 12, 13, 13, 15, 15, 4, 6, 6, 6, 6, 15, 0, 0, 4, 0, 0, 6, 0, 6, 0, 6, 0, 5, 0, 0, 6, 11, 1, 5, 0, 14, 0, 14, 14, 14, 0, 13, 0, 13, 0, 13, 13, 12, 13, 13, 15, 15, 4, 6, 6, 6, 6, 15, 0, 0, 4, 0, 0, 6, 0, 6, 0, 6, 0, 6, 0, 0, 6, 12, 1, 5, 0, 14, 0, 14, 14, 14, 0, 13, 0, 13, 0, 13, 13, 12, 13, 13, 15, 15, 4, 6, 6, 6, 6, 15, 0, 0, 4, 0, 0, 6, 0, 6, 0, 6, 0, 7, 0, 0, 6, 13, 1, 5, 0, 14, 0, 14, 14, 14, 0, 13, 0, 13, 0, 13, 13, 12, 13, 13, 15, 15, 4, 6, 6, 6, 6, 15, 0, 0, 4, 0, 0, 6, 0, 6, 0, 6, 0, 8, 0, 0, 6, 14, 1, 5, 0, 14, 0, 14, 14, 14, 0, 13, 0, 13, 0, 13, 13, 12, 13, 13, 17, 3, 3, 15, 15, 15, 0, 0, 3, 0, 40, 1, 0, 0, 42, 0, 0, 0, 5, 5, 3, 14, 14, 0, 14, 0, 18, 0, 18, 18, 0, 18, 0, 18, 0, 18, 0, 18, 0, 18, 18, 14, 18, 18, 20, 20, 5, 0, 0, 5, 0, 0, 20, 0, 0, 0, 15, 0, 0, 19, 0, 19, 19, 19, 0, 18, 0, 18, 0, 18, 18, 14, 18, 18, 20, 20, 5, 0, 0, 5, 0, 0, 20, 0, 0, 0, 16, 0, 0, 19, 0, 19, 19, 19, 0, 18, 0, 18, 0, 18, 18, 14, 18, 18, 20, 20, 5, 0, 0, 5, 0, 0, 20, 0, 0, 0, 17, 0, 0, 19, 0, 19, 19, 19, 0, 18, 0, 18, 0, 18, 18, 14, 18, 18, 20, 20, 5, 0, 0, 5, 0, 0, 20, 0, 0, 0, 18, 0, 0, 19, 0, 19, 19, 19, 0, 18, 0, 18, 0, 18, 18, 14, 18, 18, 20, 20, 5, 0, 0, 5, 0, 0, 20, 0, 0, 0, 19, 0, 0, 19, 0, 19, 19, 19, 0, 18, 0, 18, 0, 18, 18, 14, 18, 18, 20, 20, 5, 0, 0, 5, 0, 0, 20, 0, 0, 0, 20, 0, 0, 19, 0, 19, 19, 19, 0, 18, 0, 18, 0, 18, 18, 14, 18, 18, 22, 3, 3, 20, 20, 20, 0, 0, 3, 0, 21, 1, 18, 0, 22, 0, 0, 23, 0, 0, 24, 1, 1, 0, 25, 9, 22, 23, 24, 25, 26, 27, 28, 29, 30, 32, 32, 32, 0, 32, 0, 35, 35, 0, 35, 0, 35, 35, 32, 35, 35, 35, 0, 35, 0, 35, 35, 32, 35, 35, 35, 0, 35, 0, 35, 35, 32, 35, 35, 37, 3, 3, 3, 3, 3, 3, 38, 38, 0, 38, 0, 39, 0, 39, 0, 39, 0, 39, 39, 38, 39, 39, 3, 3, 0, 0, 3, 0, 26, 1, 32, 40, 41, 40, 0, 40, 28, 2, 39, 40, 0, 3, 0, 29, 1, 32, 0, 3, 0, 31, 1, 13, 42, 43, 42, 0, 42, 32, 2, 41, 42, 0, 39, 0, 39, 0, 39, 39, 38, 39, 39, 3, 3, 0, 0, 3, 0, 27, 1, 33, 44, 45, 44, 0, 44, 28, 2, 43, 44, 0, 3, 0, 30, 1, 33, 0, 3, 0, 31, 1, 13, 46, 47, 46, 0, 46, 32, 2, 45, 46, 0, 39, 0, 39, 0, 39, 39, 38, 39, 39, 49, 0, 0, 3, 0, 33, 1, 32, 0, 3, 0, 34, 1, 33, 0, 3, 0, 35, 1, 13])
noncomputable def tgLW8 : Bool → Tg
  | true => (gl (gf (gl (gf (gl (gf (gl (gf (gl g0 []) (gl g0 [])) [3, 3, 14, 34, 14, 0, 14, 38, 2, 13, 33]) (gl (gf (gl g0 []) (gl g0 [])) [3, 3, 14, 34, 14, 0, 14, 38, 2, 13, 33])) [0, 3, 0, 36, 1, 13]) (gl g0 [])) [3, 3, 14, 33, 14, 0, 14, 37, 2, 13, 32]) (gl (gf (gl g0 []) (gl (gf (gl (gf (gl g0 []) (gl g0 [])) [3, 3, 14, 34, 14, 0, 14, 38, 2, 13, 33]) (gl (gf (gl g0 []) (gl g0 [])) [3, 3, 14, 34, 14, 0, 14, 38, 2, 13, 33])) [0, 3, 0, 36, 1, 13])) [3, 3, 14, 33, 14, 0, 14, 37, 2, 13, 32])) [1, 0, 0, 3, 3, 4, 4, 3, 1, 1, 1, 0, 1, 39, 2, 0, 6, 0, 0, 3, 0, 40, 1, 0, 9, 9, 9, 0, 9, 41, 2, 8, 9, 0, 8, 11, 8, 0, 8, 0, 11, 8, 11, 12, 12, 0, 12, 0, 13, 0, 0, 13, 0, 13, 0, 13, 13, 12, 13, 13, 15, 15, 4, 6, 6, 6, 6, 15, 0, 0, 4, 0, 0, 6, 0, 6, 0, 6, 0, 3, 0, 0, 6, 9, 1, 5, 0, 14, 0, 14, 14, 14, 0, 13, 0, 13, 0, 13, 13, 12, 13, 13, 15, 15, 4, 6, 6, 6, 6, 15, 0, 0, 4, 0, 0, 6, 0, 6, 0, 6, 0, 4, 0, 0, 6, 10, 1, 5, 0, 14, 0, 14, 14, 14, 0, 13, 0, 13, 0, 13, 13, 12, 13, 13, 15, 15, 4, 6, 6, 6, 6, 15, 0, 0, 4, 0, 0, 6, 0, 6, 0, 6, 0, 5, 0, 0, 6, 11, 1, 5, 0, 14, 0, 14, 14, 14, 0, 13, 0, 13, 0, 13, 13, 12, 13, 13, 15, 15, 4, 6, 6, 6, 6, 15, 0, 0, 4, 0, 0, 6, 0, 6, 0, 6, 0, 6, 0, 0, 6, 12, 1, 5, 0, 14, 0, 14, 14, 14, 0, 13, 0, 13, 0, 13, 13, 12, 13, 13, 15, 15, 4, 6, 6, 6, 6, 15, 0, 0, 4, 0, 0, 6, 0, 6, 0, 6, 0, 7, 0, 0, 6, 13, 1, 5, 0, 14, 0, 14, 14, 14, 0, 13, 0, 13, 0, 13, 13, 12, 13, 13, 15, 15, 4, 6, 6, 6, 6, 15, 0, 0, 4, 0, 0, 6, 0, 6, 0, 6, 0, 8, 0, 0, 6, 14, 1, 5, 0, 14, 0, 14, 14, 14, 0, 13, 0, 13, 0, 13, 13, 12, 13, 13, 17, 3, 3, 15, 15, 15, 0, 0, 3, 0, 40, 1, 0, 0, 42, 0, 0, 0, 5, 5, 3, 14, 14, 0, 14, 0, 18, 0, 0, 18, 0, 18, 0, 18, 18, 14, 18, 18, 20, 20, 5, 0, 0, 5, 0, 0, 20, 0, 0, 0, 15, 0, 0, 19, 0, 19, 19, 19, 0, 18, 0, 18, 0, 18, 18, 14, 18, 18, 20, 20, 5, 0, 0, 5, 0, 0, 20, 0, 0, 0, 16, 0, 0, 19, 0, 19, 19, 19, 0, 18, 0, 18, 0, 18, 18, 14, 18, 18, 20, 20, 5, 0, 0, 5, 0, 0, 20, 0, 0, 0, 17, 0, 0, 19, 0, 19, 19, 19, 0, 18, 0, 18, 0, 18, 18, 14, 18, 18, 20, 20, 5, 0, 0, 5, 0, 0, 20, 0, 0, 0, 18, 0, 0, 19, 0, 19, 19, 19, 0, 18, 0, 18, 0, 18, 18, 14, 18, 18, 20, 20, 5, 0, 0, 5, 0, 0, 20, 0, 0, 0, 19, 0, 0, 19, 0, 19, 19, 19, 0, 18, 0, 18, 0, 18, 18, 14, 18, 18, 20, 20, 5, 0, 0, 5, 0, 0, 20, 0, 0, 0, 20, 0, 0, 19, 0, 19, 19, 19, 0, 18, 0, 18, 0, 18, 18, 14, 18, 18, 22, 3, 3, 20, 20, 20, 0, 0, 3, 0, 21, 1, 18, 0, 22, 0, 0, 23, 0, 0, 24, 1, 1, 0, 25, 9, 22, 23, 24, 25, 26, 27, 28, 29, 30, 32, 32, 32, 0, 32, 0, 35, 35, 0, 35, 0, 35, 35, 32, 35, 35, 35, 0, 35, 0, 35, 35, 32, 35, 35, 35, 0, 35, 0, 35, 35, 32, 35, 35, 37, 3, 3, 3, 3, 3, 3, 38, 38, 0, 38, 0, 39, 0, 39, 0, 39, 0, 39, 39, 38, 39, 39, 3, 3, 0, 0, 3, 0, 26, 1, 32, 40, 41, 40, 0, 40, 28, 2, 39, 40, 0, 3, 0, 29, 1, 32, 0, 3, 0, 31, 1, 13, 42, 43, 42, 0, 42, 32, 2, 41, 42, 0, 39, 0, 39, 0, 39, 39, 38, 39, 39, 3, 3, 0, 0, 3, 0, 27, 1, 33, 44, 45, 44, 0, 44, 28, 2, 43, 44, 0, 3, 0, 30, 1, 33, 0, 3, 0, 31, 1, 13, 46, 47, 46, 0, 46, 32, 2, 45, 46, 0, 39, 0, 39, 0, 39, 39, 38, 39, 39, 49, 0, 0, 3, 0, 33, 1, 32, 0, 3, 0, 34, 1, 33, 0, 3, 0, 35, 1, 13])
  | false => (gl (gf (gl (gf (gl (gf (gl (gf (gl g0 []) (gl g0 [])) [3, 3, 14, 34, 14, 0, 14, 38, 2, 13, 33]) (gl (gf (gl g0 []) (gl g0 [])) [3, 3, 14, 34, 14, 0, 14, 38, 2, 13, 33])) [0, 3, 0, 36, 1, 13]) (gl g0 [])) [3, 3, 14, 33, 14, 0, 14, 37, 2, 13, 32]) (gl (gf (gl g0 []) (gl (gf (gl (gf (gl g0 []) (gl g0 [])) [3, 3, 14, 34, 14, 0, 14, 38, 2, 13, 33]) (gl (gf (gl g0 []) (gl g0 [])) [3, 3, 14, 34, 14, 0, 14, 38, 2, 13, 33])) [0, 3, 0, 36, 1, 13])) [3, 3, 14, 33, 14, 0, 14, 37, 2, 13, 32])) [1, 0, 0, 3, 3, 4, 4, 3, 1, 1, 1, 0, 1, 39, 2, 0, 6, 0, 0, 3, 0, 40, 1, 0, 9, 9, 9, 0, 9, 41, 2, 8, 9, 0, 8, 11, 8, 0, 8, 0, 11, 8, 11, 12, 12, 0, 12, 0, 13, 0, 13, 13, 0, 13, 0, 13, 0, 13, 0, 13, 0, 13, 13, 12, 13, 13, 15, 15, 4, 6, 6, 6, 6, 15, 0, 0, 4, 0, 0, 6, 0, 6, 0, 6, 0, 3, 0, 0, 6, 9, 1, 5, 0, 14, 0, 14, 14, 14, 0, 13, 0, 13, 0, 13, 13, 12, 13, 13, 15, 15, 4, 6, 6, 6, 6, 15, 0, 0, 4, 0, 0, 6, 0, 6, 0, 6, 0, 4, 0, 0, 6, 10, 1, 5, 0, 14, 0, 14, 14, 14, 0, 13, 0, 13, 0, 13, 13, 12, 13, 13, 15, 15, 4, 6, 6, 6, 6, 15, 0, 0, 4, 0, 0, 6, 0, 6, 0, 6, 0, 5, 0, 0, 6, 11, 1, 5, 0, 14, 0, 14, 14, 14, 0, 13, 0, 13, 0, 13, 13, 12, 13, 13, 15, 15, 4, 6, 6, 6, 6, 15, 0, 0, 4, 0, 0, 6, 0, 6, 0, 6, 0, 6, 0, 0, 6, 12, 1, 5, 0, 14, 0, 14, 14, 14, 0, 13, 0, 13, 0, 13, 13, 12, 13, 13, 15, 15, 4, 6, 6, 6, 6, 15, 0, 0, 4, 0, 0, 6, 0, 6, 0, 6, 0, 7, 0, 0, 6, 13, 1, 5, 0, 14, 0, 14, 14, 14, 0, 13, 0, 13, 0, 13, 13, 12, 13, 13, 15, 15, 4, 6, 6, 6, 6, 15, 0, 0, 4, 0, 0, 6, 0, 6, 0, 6, 0, 8, 0, 0, 6, 14, 1, 5, 0, 14, 0, 14, 14, 14, 0, 13, 0, 13, 0, 13, 13, 12, 13, 13, 17, 3, 3, 15, 15, 15, 0, 0, 3, 0, 40, 1, 0, 0, 42, 0, 0, 0, 5, 5, 3, 14, 14, 0, 14, 0, 18, 0, 18, 18, 0, 18, 0, 18, 0, 18, 0, 18, 0, 18, 18, 14, 18, 18, 20, 20, 5, 0, 0, 5, 0, 0, 20, 0, 0, 0, 15, 0, 0, 19, 0, 19, 19, 19, 0, 18, 0, 18, 0, 18, 18, 14, 18, 18, 20, 20, 5, 0, 0, 5, 0, 0, 20, 0, 0, 0, 16, 0, 0, 19, 0, 19, 19, 19, 0, 18, 0, 18, 0, 18, 18, 14, 18, 18, 20, 20, 5, 0, 0, 5, 0, 0, 20, 0, 0, 0, 17, 0, 0, 19, 0, 19, 19, 19, 0, 18, 0, 18, 0, 18, 18, 14, 18, 18, 20, 20, 5, 0, 0, 5, 0, 0, 20, 0, 0, 0, 18, 0, 0, 19, 0, 19, 19, 19, 0, 18, 0, 18, 0, 18, 18, 14, 18, 18, 20, 20, 5, 0, 0, 5, 0, 0, 20, 0, 0, 0, 19, 0, 0, 19, 0, 19, 19, 19, 0, 18, 0, 18, 0, 18, 18, 14, 18, 18, 20, 20, 5, 0, 0, 5, 0, 0, 20, 0, 0, 0, 20, 0, 0, 19, 0, 19, 19, 19, 0, 18, 0, 18, 0, 18, 18, 14, 18, 18, 22, 3, 3, 20, 20, 20, 0, 0, 3, 0, 21, 1, 18, 0, 22, 0, 0, 23, 0, 0, 24, 1, 1, 0, 25, 9, 22, 23, 24, 25, 26, 27, 28, 29, 30, 32, 32, 32, 0, 32, 0, 35, 35, 0, 35, 0, 35, 35, 32, 35, 35, 35, 0, 35, 0, 35, 35, 32, 35, 35, 35, 0, 35, 0, 35, 35, 32, 35, 35, 37, 3, 3, 3, 3, 3, 3, 38, 38, 0, 38, 0, 39, 0, 39, 0, 39, 0, 39, 39, 38, 39, 39, 3, 3, 0, 0, 3, 0, 26, 1, 32, 40, 41, 40, 0, 40, 28, 2, 39, 40, 0, 3, 0, 29, 1, 32, 0, 3, 0, 31, 1, 13, 42, 43, 42, 0, 42, 32, 2, 41, 42, 0, 39, 0, 39, 0, 39, 39, 38, 39, 39, 3, 3, 0, 0, 3, 0, 27, 1, 33, 44, 45, 44, 0, 44, 28, 2, 43, 44, 0, 3, 0, 30, 1, 33, 0, 3, 0, 31, 1, 13, 46, 47, 46, 0, 46, 32, 2, 45, 46, 0, 39, 0, 39, 0, 39, 39, 38, 39, 39, 49, 0, 0, 3, 0, 33, 1, 32, 0, 3, 0, 34, 1, 33, 0, 3, 0, 35, 1, 13])
set_option maxHeartbeats 0
theorem lw_chk0 (P : Params) (b1 b2 : Bool) (D : LD) (N tk : Nat) : (ckLW P b1 b2 D 0 0 N tk (tgLW0 b2)).lhs = (ckLW P b1 b2 D 0 0 N tk (tgLW0 b2)).rhs := by
  cases b1 <;> cases b2 <;> kernel_rfl
theorem lw_chk1 (P : Params) (b1 b2 : Bool) (D : LD) (N tk : Nat) : (ckLW P b1 b2 D 1 1 N tk (tgLW1 b2)).lhs = (ckLW P b1 b2 D 1 1 N tk (tgLW1 b2)).rhs := by
  cases b1 <;> cases b2 <;> kernel_rfl
theorem lw_chk2 (P : Params) (b1 b2 : Bool) (D : LD) (N tk : Nat) : (ckLW P b1 b2 D 2 2 N tk (tgLW2 b2)).lhs = (ckLW P b1 b2 D 2 2 N tk (tgLW2 b2)).rhs := by
  cases b1 <;> cases b2 <;> kernel_rfl
theorem lw_chk3 (P : Params) (b1 b2 : Bool) (D : LD) (N tk : Nat) : (ckLW P b1 b2 D 3 0 N tk (tgLW3 b2)).lhs = (ckLW P b1 b2 D 3 0 N tk (tgLW3 b2)).rhs := by
  cases b1 <;> cases b2 <;> kernel_rfl
theorem lw_chk4 (P : Params) (b1 b2 : Bool) (D : LD) (N tk : Nat) : (ckLW P b1 b2 D 4 1 N tk (tgLW4 b2)).lhs = (ckLW P b1 b2 D 4 1 N tk (tgLW4 b2)).rhs := by
  cases b1 <;> cases b2 <;> kernel_rfl
theorem lw_chk5 (P : Params) (b1 b2 : Bool) (D : LD) (N tk : Nat) : (ckLW P b1 b2 D 5 2 N tk (tgLW5 b2)).lhs = (ckLW P b1 b2 D 5 2 N tk (tgLW5 b2)).rhs := by
  cases b1 <;> cases b2 <;> kernel_rfl
theorem lw_chk6 (P : Params) (b1 b2 : Bool) (D : LD) (N tk : Nat) : (ckLW P b1 b2 D 6 0 N tk (tgLW6 b2)).lhs = (ckLW P b1 b2 D 6 0 N tk (tgLW6 b2)).rhs := by
  cases b1 <;> cases b2 <;> kernel_rfl
theorem lw_chk7 (P : Params) (b1 b2 : Bool) (D : LD) (N tk : Nat) : (ckLW P b1 b2 D 6 1 N tk (tgLW7 b2)).lhs = (ckLW P b1 b2 D 6 1 N tk (tgLW7 b2)).rhs := by
  cases b1 <;> cases b2 <;> kernel_rfl
theorem lw_chk8 (P : Params) (b1 b2 : Bool) (D : LD) (N tk : Nat) : (ckLW P b1 b2 D 6 2 N tk (tgLW8 b2)).lhs = (ckLW P b1 b2 D 6 2 N tk (tgLW8 b2)).rhs := by
  cases b1 <;> cases b2 <;> kernel_rfl
end Mine

namespace Mine
open PySem PySem.Spec PySem.Calls PyProof.Rows PySem.W PySem.W.X

theorem rowF_getD (l : List Nat) : ∀ (k i : Nat), i + k = l.length → rowF (rowN l) i k = l.drop i
  | 0, i, h => by rw [List.drop_of_length_le (by omega)]; rfl
  | k + 1, i, h => by
    show l.getD i 0 :: rowF (rowN l) (i + 1) k = _
    have hi : i < l.length := by omega
    have e := List.drop_eq_getElem_cons hi
    rw [rowF_getD l k (i + 1) (by omega), e, List.getD_eq_getElem?_getD, List.getElem?_eq_getElem hi, Option.getD_some]
theorem rowF_rowN {l : List Nat} {k : Nat} (h : l.length = k) : rowF (rowN l) 0 k = l := by
  rw [rowF_getD l k 0 (by omega)]; rfl
theorem lok_row (n : Nat → Nat) : LOk n (minRow n) (leRow n) := ⟨fun _ _ => rfl, rfl, fun _ _ => rfl⟩
theorem rep_list (c n : Nat) : ((List.replicate n (Array.mk (baseC c))).foldl (· ++ ·) (#[] : Array Nat)).toList = encC c n := by
  have gen : ∀ (n : Nat) (acc : Array Nat), ((List.replicate n (Array.mk (baseC c))).foldl (· ++ ·) acc).toList = acc.toList ++ encC c n := by
    intro n
    induction n with
    | zero => intro acc; simp [encC]
    | succ n ih =>
      intro acc
      rw [List.replicate_succ, List.foldl_cons, ih]
      simp [encC]
  have := gen n #[]
  simpa using this
theorem enc_len2 (c : Nat) : ∀ n : Nat, (encC c n).length = n * (baseC c).length
  | 0 => by simp [encC]
  | n + 1 => by
    show (baseC c ++ encC c n).length = _
    rw [List.length_append, enc_len2 c n, Nat.succ_mul, Nat.add_comm]
/-- the six words -/
noncomputable def wdS (r : Nat) (n : Nat) : Str := repS (baseS r) n
theorem wdS_list (r n : Nat) : (wdS r n).cps.toList = encC (sgn r) n := rep_list (sgn r) n
noncomputable def qmS : Str := sl [34]
noncomputable def sepS : Str := sl [34, 32, 34]
noncomputable def joS (r : Nat) (n : Nat → Nat) : Str := Builtin.Str.glued sepS [wdS r (n 0), wdS r (n 1), wdS r (n 2), wdS r (n 3), wdS r (n 4), wdS r (n 5)]
noncomputable def txS (r : Nat) (n : Nat → Nat) : Str := (qmS ++ joS r n) ++ qmS
theorem joS_list (r : Nat) (n : Nat → Nat) : (joS r n).cps.toList = encC (sgn r) (n 0) ++ ([34, 32, 34] ++ (encC (sgn r) (n 1) ++ ([34, 32, 34] ++ (encC (sgn r) (n 2) ++ ([34, 32, 34] ++ (encC (sgn r) (n 3) ++ ([34, 32, 34] ++ (encC (sgn r) (n 4) ++ ([34, 32, 34] ++ encC (sgn r) (n 5)))))))))) := by
  unfold joS Builtin.Str.glued
  simp only [List.drop_succ_cons, List.drop_zero, List.foldl_cons, List.foldl_nil, List.headD_cons, Array.toList_append, wdS_list]
  have e : sepS.cps.toList = [34, 32, 34] := rfl
  rw [e]
  simp only [List.append_assoc]
theorem txS_list (r : Nat) (n : Nat → Nat) : (txS r n).cps.toList = textL (sgn r) true (rowF n 0 6) := by
  unfold txS
  rw [Str.cps_append, Str.cps_append, Array.toList_append, Array.toList_append, joS_list]
  have e : qmS.cps.toList = [34] := rfl
  rw [e]
  show _ = [] ++ 34 :: (encC (sgn r) (n 0) ++ 34 :: ([32] ++ 34 :: (encC (sgn r) (n 1) ++ 34 :: ([32] ++ 34 :: (encC (sgn r) (n 2) ++ 34 :: ([32] ++ 34 :: (encC (sgn r) (n 3) ++ 34 :: ([32] ++ 34 :: (encC (sgn r) (n 4) ++ 34 :: ([32] ++ 34 :: (encC (sgn r) (n 5) ++ 34 :: [])))))))))))
  simp only [List.append_assoc, List.cons_append, List.nil_append]
theorem text_len (c : Nat) (n : Nat → Nat) : (textL c true (rowF n 0 6)).length = 17 + sumL (rowF n 0 6) * (baseC c).length := by
  show ([] ++ 34 :: (encC c (n 0) ++ 34 :: ([32] ++ 34 :: (encC c (n 1) ++ 34 :: ([32] ++ 34 :: (encC c (n 2) ++ 34 :: ([32] ++ 34 :: (encC c (n 3) ++ 34 :: ([32] ++ 34 :: (encC c (n 4) ++ 34 :: ([32] ++ 34 :: (encC c (n 5) ++ 34 :: []))))))))))) : List Nat).length = 17 + (n 0 + (n 1 + (n 2 + (n 3 + (n 4 + (n 5 + 0)))))) * (baseC c).length
  simp only [List.length_append, List.length_cons, List.length_nil, enc_len2, Nat.add_mul]
  omega
/-- what is left after k draws -/
noncomputable def rsL (q : Nat → Nat) : Nat → List Nat
  | 0 => [1, 2, 3, 4, 5, 6]
  | k + 1 => (rsL q k).eraseIdx (q k)
noncomputable def drN (q : Nat → Nat) (k : Nat) : Nat := (rsL q k).getD (q k) 0
theorem rsL_length {q : Nat → Nat} (hq : ∀ k < 6, q k < 6 - k) : ∀ k ≤ 6, (rsL q k).length = 6 - k
  | 0, _ => rfl
  | k + 1, h => by
    show ((rsL q k).eraseIdx (q k)).length = _
    have := rsL_length hq k (by omega)
    have hk := hq k (by omega)
    rw [List.length_eraseIdx, if_pos (by omega)]
    omega
theorem drawn_is {q : Nat → Nat} (h5 : q 5 = 0) : ordOf (q 0) (q 1) (q 2) (q 3) (q 4) = rowF (drN q) 0 6 := by
  show [_, _, _, _, _, _] = [drN q 0, drN q 1, drN q 2, drN q 3, drN q 4, drN q 5]
  have e : drN q 5 = (rsL q 5).getD 0 0 := by unfold drN; rw [h5]
  rw [e]
  rfl
theorem fst_length (ord : List Nat) : (fstO ord).length = 6 := rowF_length _ _ _
theorem snd_length (ord : List Nat) : (sndO ord).length = 6 := rowF_length _ _ _
theorem lrow_length (n L : Nat → Nat) : (lrow n L 6).length = 6 := rfl
theorem perm_of {l : List Nat} (h : permB l = true) : l.Perm [1, 2, 3, 4, 5, 6] := List.isPerm_iff.mp h
theorem le6_of_place {ord : List Nat} (h : ord.length = 6) (hn : ∀ k < 6, rowN ord k ≤ 6) : le6 ord = true := by
  have gen : ∀ (l : List Nat), (∀ x ∈ l, x ≤ 6) → le6 l = true := by
    intro l
    induction l with
    | nil => intro _; rfl
    | cons x l ih =>
      intro hx
      unfold le6
      rw [Nat.ble_eq_true_of_le (hx x List.mem_cons_self)]
      exact ih fun y hy => hx y (List.mem_cons_of_mem _ hy)
  refine gen ord fun x hx => ?_
  obtain ⟨k, hk, e⟩ := List.getElem_of_mem hx
  have := hn k (by omega)
  unfold rowN at this
  rw [List.getD_eq_getElem?_getD, List.getElem?_eq_getElem hk, Option.getD_some, e] at this
  exact this
/-- all that a call of law brings, out of its script -/
noncomputable def ldOf (z : Nat → Int) (u : Nat → Tok) (more : List Value) (len : Nat) (r : Nat) (q : Nat → Nat) (ord : List Nat) : LD where
  z := z
  u := u
  more := more
  len := len
  q := q
  S := fun k => rowN (rsL q k)
  n := rowN ord
  W := fun k => wdS r (rowN ord k)
  JO := joS r (rowN ord)
  T1 := qmS ++ joS r (rowN ord)
  TX := txS r (rowN ord)
  T := rowN (textL (sgn r) true ord)
  EE := dK (sgn r) ord 0 + dK (sgn r) ord 1 + dK (sgn r) ord 2 + dK (sgn r) ord 3 + dK (sgn r) ord 4 + dK (sgn r) ord 5
  MM := 2 * cntL (jsOf ord) 6
  A := rowN (fstO ord)
  B := rowN (sndO ord)
  L := rowN (lrow (rowN ord) (leRow (rowN ord)) 6)
  r1 := anyR false (rowN ord) trips
  r2 := anyR true (rowN ord) trips
theorem okCh_sgn (r : Nat) : okCh (sgn r) = true := by
  unfold sgn
  split <;> rfl
theorem base_len (r : Nat) : (baseC (sgn r)).length = match r with | 0 => 1 | _ => 2 := by
  unfold sgn
  match r with
  | 0 => rfl
  | 1 => rfl
  | n + 2 => rfl
theorem rulesW_ok (w : World) {z : Nat → Int} {u : Nat → Tok} {more : List Value} {len s r : Nat} {q : Nat → Nat} (hq : ∀ k < 6, q k < 6 - k)
    (hz : ∀ k < 6, (zz (ldOf z u more len r q (rowF (drN q) 0 6)) s k).fmod (6 - Int.ofNat k) = Int.ofNat (q k)) (hb : ordB (rowF (drN q) 0 6) = true) (hs : s ≤ 6)
    (hbig : Nat.blt s 6 = false → (itemsS (ldOf z u more len r q (rowF (drN q) 0 6)) 6).length = len ∧ len ≤ 1000 ∧ 6 ≤ len ∧ (Int.ofNat len).fmod 3 = Int.ofNat r)
    (hsm : Nat.blt s 6 = true → (Int.ofNat s).fmod 3 = Int.ofNat r) :
    ∀ x ∈ rulesW w.params (ldOf z u more len r q (rowF (drN q) 0 6)) s r, RuleD.Ok pw0 w (ko w.params) x := by
  generalize hord : rowF (drN q) 0 6 = ord at *
  have h6 : ord.length = 6 := by rw [← hord]; exact rowF_length _ _ _
  have hrow : rowF (rowN ord) 0 6 = ord := rowF_rowN h6
  have hb0 := hb
  unfold ordB at hb
  obtain ⟨b1, hb⟩ := andB_is hb
  obtain ⟨b2, hb⟩ := andB_is hb
  obtain ⟨b3, hb⟩ := andB_is hb
  obtain ⟨b4, hb⟩ := andB_is hb
  obtain ⟨b5, hb⟩ := andB_is hb
  obtain ⟨b6, hb⟩ := andB_is hb
  obtain ⟨b7, hb⟩ := andB_is hb
  obtain ⟨b8, hb⟩ := andB_is hb
  obtain ⟨b9, hb⟩ := andB_is hb
  obtain ⟨b10, b11⟩ := andB_is hb
  have hp : ∀ k < 6, PlaceOk (pdOf ord (fun _ => []) (fun _ => 0)) (jsOf ord) k := fun k hk => placeB_is (all6_is b2 k hk)
  have n1 : ∀ k < 6, 1 ≤ rowN ord k := fun k hk => (hp k hk).n1
  have n6 : ∀ k < 6, rowN ord k ≤ 6 := fun k hk => (hp k hk).n6
  have hl6 := le6_of_place h6 n6
  have hsum := Nat.eq_of_beq_eq_true b11
  have htl : (textL (sgn r) true ord).length = lenT r := by
    have := text_len (sgn r) (rowN ord)
    rw [hrow, hsum, base_len] at this
    rw [this]
    unfold lenT
    match r with
    | 0 => rfl
    | n + 1 => rfl
  have hm : lenT r ≤ 59 := by unfold lenT; split <;> omega
  have htx : (txS r (rowN ord)).cps.toList = textL (sgn r) true ord := by rw [txS_list, hrow]
  have htxs : (txS r (rowN ord)).cps.size = lenT r := by
    rw [← htl, ← htx]; exact Array.size_eq_length_toList
  have hT : ∀ j < lenT r, (textL (sgn r) true ord)[j]? = some (rowN (textL (sgn r) true ord) j) := fun j hj => by
    unfold rowN
    rw [List.getD_eq_getElem?_getD, List.getElem?_eq_getElem (by omega), Option.getD_some]
  have e2 : (qmS : Str).length = 1 := rfl
  have hjo : (joS r (rowN ord)).length + 2 = lenT r := by
    have : (txS r (rowN ord)).length = (joS r (rowN ord)).length + 2 := by
      unfold txS
      rw [Str.length_append, Str.length_append, e2]; omega
    rw [← this]; exact htxs
  have hr6 : ∀ k ≤ 6, restR6 (ldOf z u more len r q ord) k = rsL q k := fun k hk => by
    cases k with
    | zero => rfl
    | succ k => exact rowF_rowN (rsL_length hq (k + 1) hk)
  have hdr : ∀ k < 6, rowN ord k = drN q k := fun k hk => by
    have : rowN (rowF (drN q) 0 6) k = drN q k := by
      have e : k = 0 ∨ k = 1 ∨ k = 2 ∨ k = 3 ∨ k = 4 ∨ k = 5 := by omega
      rcases e with rfl | rfl | rfl | rfl | rfl | rfl <;> rfl
    rw [hord] at this
    exact this
  have eA : rowF (ldOf z u more len r q ord).A 0 6 = fstO ord := rowF_rowN (fst_length ord)
  have eB : rowF (ldOf z u more len r q ord).B 0 6 = sndO ord := rowF_rowN (snd_length ord)
  have eL : rowF (ldOf z u more len r q ord).L 0 6 = lrow (rowN ord) (leRow (rowN ord)) 6 := rowF_rowN (lrow_length _ _)
  have srt : ([1, 2, 3, 4, 5, 6] : List Nat).Pairwise (· ≤ ·) := by decide
  intro x hx
  unfold rulesW at hx
  rcases List.mem_append.mp hx with hx | hx
  · rcases List.mem_append.mp hx with hx | hx
    · rcases List.mem_append.mp hx with hx | hx
      · rcases List.mem_append.mp hx with hx | hx
        · obtain ⟨k, hk, rfl⟩ := fam_mem hx
          refine rMod_ok _ _ _ ?_ (hz k hk)
          rw [beq_iff_eq, show Int.ofNat k = (k : Int) from rfl]
          omega
        · obtain ⟨k, hk, rfl⟩ := fam_mem hx
          rw [hr6 k (by omega), hr6 (k + 1) (by omega)]
          have hlen := rsL_length hq k (by omega)
          have hk2 := hq k hk
          refine rPopI_ok _ _ _ (by omega) ?_ rfl
          show (rsL q k)[q k]? = some (rowN ord k)
          rw [hdr k hk]
          unfold drN
          rw [List.getD_eq_getElem?_getD, List.getElem?_eq_getElem (by omega), Option.getD_some]
      · obtain ⟨k, hk, rfl⟩ := fam_mem hx
        refine rMulK_ok _ _ _ (n1 k hk) (n6 k hk) ?_ rfl (fun h1 => ?_) ?_
        · show (baseC (sgn r)).length ≤ 2
          rw [base_len]; split <;> omega
        · have h1 : rowN ord k = 1 := h1
          show baseS r = wdS r (rowN ord k)
          rw [h1]
          apply Str.ext'
          apply Array.ext'
          rw [wdS_list]
          show baseC (sgn r) = baseC (sgn r) ++ []
          rw [List.append_nil]
        · show (baseC (sgn r)).length ≠ 0
          rw [base_len]; split <;> omega
    · simp only [List.mem_cons, List.not_mem_nil, or_false] at hx
      rcases hx with rfl | rfl | rfl | rfl | rfl | rfl | rfl | rfl | rfl | rfl | rfl | rfl | rfl | rfl | rfl | rfl | rfl | rfl
      · refine rJoinK_ok _ _ _ rfl ?_ ?_
        · show (joS r (rowN ord)).length ≤ 1000
          omega
        · have hw : ∀ k < 6, (wdS r (rowN ord k)).length ≤ 12 := fun k hk => by
            have : (wdS r (rowN ord k)).cps.size = (encC (sgn r) (rowN ord k)).length := by rw [← wdS_list]; exact Array.size_eq_length_toList
            have h2 := enc_length (sgn r) (rowN ord k)
            have h3 := n6 k hk
            show (wdS r (rowN ord k)).cps.size ≤ 12
            omega
          have w0 := hw 0 (by omega)
          have w1 := hw 1 (by omega)
          have w2 := hw 2 (by omega)
          have w3 := hw 3 (by omega)
          have w4 := hw 4 (by omega)
          have w5 := hw 5 (by omega)
          unfold Builtin.Str.tooLong
          rw [decide_eq_false_iff_not, sizeLine_eq]
          simp only [List.foldl_toArray, List.foldl_cons, List.foldl_nil]
          show ¬ (0 + (wdS r (rowN ord 0)).length + 3 + (wdS r (rowN ord 1)).length + 3 + (wdS r (rowN ord 2)).length + 3 + (wdS r (rowN ord 3)).length + 3 + (wdS r (rowN ord 4)).length + 3 + (wdS r (rowN ord 5)).length + 3 > _)
          omega
      · refine rAddK_ok _ _ _ rfl ?_
        show (qmS : Str).length + (joS r (rowN ord)).length ≤ 1000
        omega
      · refine rAddK_ok _ _ _ rfl ?_
        show ((qmS : Str) ++ joS r (rowN ord)).length + (qmS : Str).length ≤ 1000
        rw [Str.length_append]; omega
      · refine rLX_ok w htxs (fun i hi => ?_) ?_
        · have e : (txS r (rowN ord)).cps[i]? = (textL (sgn r) true ord)[i]? := by rw [← htx, Array.getElem?_toList]
          exact e.trans (hT i hi)
        · unfold lenT; split
          · exact .inl rfl
          · exact .inr rfl
      · rw [eA, eB]
        exact rPA_ok w (okCh_sgn r) h6 hl6 hb0 htl hT
      · rw [eA]
        exact rSortedK_ok _ _ _ (by rw [fst_length]; omega) (by rw [fst_length]; omega) (perm_of b3) srt
      · rw [eB]
        exact rSortedK_ok _ _ _ (by rw [snd_length]; omega) (by rw [snd_length]; omega) (perm_of b4) srt
      · exact rNeK_ok _ _ _ rfl (by decide)
      · exact rLEK_ok w (lok_row _) (by rw [eL]; exact eqLB_iff.mp b5)
      · exact rLEK_ok w (lok_row _) (by rw [eL]; exact eqLB_iff.mp b6)
      · exact rLEK_ok w (lok_row _) eL.symm
      · exact rNeK_ok _ _ _ rfl (by simp)
      · exact rRSK_ok w false _ (notB_is b7)
      · exact rRSK_ok w true _ (notB_is b8)
      · exact rRSA_ok w false _ rfl
      · exact rRSA_ok w true _ rfl
      · refine rNeA_ok _ _ _ (by rw [rowF_length, rowF_length]) ?_
        have hd : decide (rowF (ldOf z u more len r q ord).n 0 6 = rowF (ldOf z u more len r q ord).A 0 6) = decide (ord = fstO ord) := decide_eq_decide.mpr (by
          rw [eA]
          show rowF (rowN ord) 0 6 = _ ↔ _
          rw [hrow])
        refine (congrArg Bool.not hd).trans ?_
        show (!decide (ord = fstO ord)) = anyR false (rowN ord) trips
        rw [eqBB_is b9, notB_eq, eqLB_dec]
      · refine rNeA_ok _ _ _ (by rw [rowF_length, rowF_length]) ?_
        have hd : decide (rowF (ldOf z u more len r q ord).n 0 6 = rowF (ldOf z u more len r q ord).B 0 6) = decide (ord = sndO ord) := decide_eq_decide.mpr (by
          rw [eB]
          show rowF (rowN ord) 0 6 = _ ↔ _
          rw [hrow])
        refine (congrArg Bool.not hd).trans ?_
        show (!decide (ord = sndO ord)) = anyR true (rowN ord) trips
        rw [eqBB_is b10, notB_eq, eqLB_dec]
  · cases hs6 : Nat.blt s 6 with
    | true =>
      rw [hs6] at hx
      rw [List.mem_singleton] at hx
      subst hx
      exact rMod_ok _ _ _ (by decide) (hsm hs6)
    | false =>
      rw [hs6] at hx
      obtain ⟨g1, g2, g3, g4⟩ := hbig hs6
      simp only [List.mem_cons, List.not_mem_nil, or_false] at hx
      rcases hx with rfl | rfl | rfl | rfl
      · exact rSlTo_ok _ _ _ (by rw [g1]; exact g2) rfl
      · exact rLenK_ok _ _ _ g1 g2
      · exact rSlFrom_ok _ _ _ g3
      · exact rMod_ok _ _ _ (by decide) g4
end Mine

namespace Mine
open PySem PySem.Spec PySem.Calls PyProof.Rows PySem.W PySem.W.X

theorem lawRaw_of {V : BV} {D : LD} {s : Nat} (h : wpS V (lawLeaf D s true)) : wpS V (lawRaw D s) := by
  have key : ∀ (r : Bool) (x y : Spec), (r = true → wpS V x) → (r = false → wpS V y) → wpS V (.ask r (.ask r x (lawLeaf D s false)) (.ask r (lawLeaf D s false) y)) := fun r x y hx hy => by
    cases r with
    | true => exact ⟨fun _ => ⟨fun _ => hx rfl, fun q => (nomatch q)⟩, fun q => (nomatch q)⟩
    | false => exact ⟨fun q => (nomatch q), fun _ => ⟨fun q => (nomatch q), fun _ => hy rfl⟩⟩
  have in2 : wpS V (.ask D.r2 (.ask D.r2 (lawLeaf D s true) (lawLeaf D s false)) (.ask D.r2 (lawLeaf D s false) (lawLeaf D s true))) := key D.r2 _ _ (fun _ => h) (fun _ => h)
  exact key D.r1 _ _ (fun _ => in2) (fun _ => in2)
noncomputable def varL : List (Nat × Nat) := [(0, 0), (1, 1), (2, 2), (3, 0), (4, 1), (5, 2), (6, 0), (6, 1), (6, 2)]
theorem law_raw (w : World) (D : LD) {s r : Nat} (h : (s, r) ∈ varL) (hr : ∀ x ∈ rulesW w.params D s r, RuleD.Ok pw0 w (ko w.params) x) : CodeSpec pw0 w (ko w.params) 305 100 cLAW [(288, oList (itemsS D s) 0), (250, oC0)] (lawRaw D s) := by
  simp only [varL, List.mem_cons, Prod.mk.injEq, List.not_mem_nil, or_false] at h
  rcases h with ⟨rfl, rfl⟩ | ⟨rfl, rfl⟩ | ⟨rfl, rfl⟩ | ⟨rfl, rfl⟩ | ⟨rfl, rfl⟩ | ⟨rfl, rfl⟩ | ⟨rfl, rfl⟩ | ⟨rfl, rfl⟩ | ⟨rfl, rfl⟩
  · exact spec_ofT (tags := tgLW0) w hr fun b1 b2 N tk => lw_chk0 w.params b1 b2 D N tk
  · exact spec_ofT (tags := tgLW1) w hr fun b1 b2 N tk => lw_chk1 w.params b1 b2 D N tk
  · exact spec_ofT (tags := tgLW2) w hr fun b1 b2 N tk => lw_chk2 w.params b1 b2 D N tk
  · exact spec_ofT (tags := tgLW3) w hr fun b1 b2 N tk => lw_chk3 w.params b1 b2 D N tk
  · exact spec_ofT (tags := tgLW4) w hr fun b1 b2 N tk => lw_chk4 w.params b1 b2 D N tk
  · exact spec_ofT (tags := tgLW5) w hr fun b1 b2 N tk => lw_chk5 w.params b1 b2 D N tk
  · exact spec_ofT (tags := tgLW6) w hr fun b1 b2 N tk => lw_chk6 w.params b1 b2 D N tk
  · exact spec_ofT (tags := tgLW7) w hr fun b1 b2 N tk => lw_chk7 w.params b1 b2 D N tk
  · exact spec_ofT (tags := tgLW8) w hr fun b1 b2 N tk => lw_chk8 w.params b1 b2 D N tk
theorem are_get : ∀ {its : List Value} {zs : List Int}, IntsAre its zs → ∀ i, i < zs.length → its[i]? = some (.int (zs.getD i 0) (iTok (its.getD i .none)))
  | _, _, .nil, i, h => absurd h (by simp)
  | _, _, .cons n t r, 0, _ => rfl
  | _, _, .cons n t r, i + 1, h => by
    have := are_get r i (by simpa using h)
    simp only [List.getElem?_cons_succ, List.getD_cons_succ]
    exact this
theorem itemsZ_is {its : List Value} {zs : List Int} (hI : IntsAre its zs) {D : LD} (hz : ∀ k, D.z k = zs.getD k 0) (hu : ∀ k, D.u k = iTok (its.getD k .none)) : ∀ k i, i + k ≤ zs.length → itemsZ D i k = (its.drop i).take k
  | 0, i, _ => by simp [itemsZ]
  | k + 1, i, h => by
    have hl := hI.length
    have hi : i < its.length := by omega
    have e := are_get hI i (by omega)
    rw [List.getElem?_eq_getElem hi, Option.some.injEq] at e
    show .int (D.z i) (D.u i) :: itemsZ D (i + 1) k = _
    rw [itemsZ_is hI hz hu k (i + 1) (by omega), List.drop_eq_getElem_cons hi, List.take_succ_cons, e, hz, hu]
/-- the law's call gives True -/
theorem law_spec (w : World) {its : List Value} {zs : List Int} (hI : IntsAre its zs) (h63 : zs.length ≤ 63) :
    CodeSpec pw0 w (ko w.params) 305 100 cLAW [(288, oList its 0), (250, oC0)] (.leaf (fun _ => []) fun ws => ⟨.res (.ok (.ret (.bool true))), [oList its 0, oC1 (ws.getD 0 0)], []⟩) := by
  have hlen := hI.length
  let s : Nat := if zs.length < 6 then zs.length else 6
  let r : Nat := zs.length % 3
  let z : Nat → Int := fun k => zs.getD k 0
  let u : Nat → Tok := fun k => iTok (its.getD k .none)
  let val : Nat → Int := fun k => match Nat.blt k s with | true => z k | false => dfl k
  let q : Nat → Nat := fun k => ((val k).fmod (6 - Int.ofNat k)).toNat
  have hk6 : ∀ k : Nat, k < 6 → (0 : Int) < 6 - Int.ofNat k := fun k hk => by rw [show Int.ofNat k = (k : Int) from rfl]; omega
  have hf0 : ∀ k : Nat, k < 6 → 0 ≤ (val k).fmod (6 - Int.ofNat k) := fun k hk => Int.fmod_nonneg_of_pos _ (hk6 k hk)
  have hf1 : ∀ k : Nat, k < 6 → (val k).fmod (6 - Int.ofNat k) < 6 - Int.ofNat k := fun k hk => Int.fmod_lt_of_pos _ (hk6 k hk)
  have hq : ∀ k < 6, q k < 6 - k := fun k hk => by
    have h0 := hf0 k hk
    have h1 := hf1 k hk
    show ((val k).fmod (6 - Int.ofNat k)).toNat < 6 - k
    rw [show Int.ofNat k = (k : Int) from rfl] at *
    omega
  have hz : ∀ k < 6, (val k).fmod (6 - Int.ofNat k) = Int.ofNat (q k) := fun k hk => (Int.toNat_of_nonneg (hf0 k hk)).symm
  have hb : ordB (rowF (drN q) 0 6) = true := by
    have h5 : q 5 = 0 := by have := hq 5 (by omega); omega
    rw [← drawn_is h5]
    exact ords_is (hq 0 (by omega)) (hq 1 (by omega)) (hq 2 (by omega)) (hq 3 (by omega)) (hq 4 (by omega))
  have hs : s ≤ 6 := by show (if zs.length < 6 then zs.length else 6) ≤ 6; split <;> omega
  have hvar : (s, r) ∈ varL := by
    show ((if zs.length < 6 then zs.length else 6), zs.length % 3) ∈ varL
    by_cases h : zs.length < 6
    · rw [if_pos h]
      have : zs.length = 0 ∨ zs.length = 1 ∨ zs.length = 2 ∨ zs.length = 3 ∨ zs.length = 4 ∨ zs.length = 5 := by omega
      rcases this with e | e | e | e | e | e <;> (rw [e]; decide)
    · rw [if_neg h]
      have : zs.length % 3 = 0 ∨ zs.length % 3 = 1 ∨ zs.length % 3 = 2 := by omega
      rcases this with e | e | e <;> (rw [e]; decide)
  let D : LD := ldOf z u (its.drop 6) zs.length r q (rowF (drN q) 0 6)
  have hD6 : 6 ≤ zs.length → itemsS D 6 = its := fun h => by
    have e : itemsS D 6 = itemsZ D 0 6 ++ its.drop 6 := rfl
    rw [e, itemsZ_is hI (fun _ => rfl) (fun _ => rfl) 6 0 (by omega), List.drop_zero, List.take_append_drop]
  have hbl : Nat.blt s 6 = true → zs.length < 6 := fun h => by
    have h : s < 6 := Nat.le_of_ble_eq_true h
    apply Classical.byContradiction
    intro hn
    have : s = 6 := if_neg hn
    omega
  have hbl2 : Nat.blt s 6 = false → 6 ≤ zs.length := fun h => by
    apply Classical.byContradiction
    intro hn
    have e : s = zs.length := if_pos (by omega)
    have : Nat.blt s 6 = true := Nat.ble_eq_true_of_le (by omega)
    rw [h] at this
    cases this
  have hits : itemsS D s = its := by
    cases hc : Nat.blt s 6 with
    | true =>
      have h := hbl hc
      have e : s = zs.length := if_pos h
      unfold itemsS
      rw [hc]
      show itemsZ D 0 s = its
      rw [itemsZ_is hI (fun _ => rfl) (fun _ => rfl) s 0 (by omega), List.drop_zero, e, ← hlen, List.take_length]
    | false =>
      have h := hbl2 hc
      have e : s = 6 := if_neg (by omega)
      rw [e]
      exact hD6 h
  have hr := rulesW_ok w (z := z) (u := u) (more := its.drop 6) (len := zs.length) (s := s) (r := r) hq hz hb hs
    (fun hc => ⟨by rw [hD6 (hbl2 hc), hlen], by omega, hbl2 hc, by
      show (Int.ofNat zs.length).fmod 3 = Int.ofNat (zs.length % 3)
      rw [Int.fmod_eq_emod_of_nonneg _ (by decide)]
      rfl⟩)
    (fun hc => by
      have e : s = zs.length := if_pos (hbl hc)
      show (Int.ofNat s).fmod 3 = Int.ofNat (zs.length % 3)
      rw [e, Int.fmod_eq_emod_of_nonneg _ (by decide)]
      rfl)
  have C := law_raw w D hvar hr
  rw [hits] at C
  refine C.mono fun V hw => lawRaw_of ?_
  unfold lawLeaf
  rw [hits]
  exact hw
noncomputable def codeAt (o : Option Obj) : Bool := match o with
  | some ⟨.type t, _, .fields vs, _⟩ => match S.eqLit 1717923940 t with
    | true => match vs.toList.getD 11 .none with
      | .ref a => Nat.beq a 250
      | _ => false
    | false => false
  | _ => false
theorem codeAt_is {o : Option Obj} (h : codeAt o = true) : ∃ ob vs, o = some ob ∧ ob.cls = .type "code" ∧ ob.data = .fields vs ∧ vs[11]? = some (.ref 250) := by
  unfold codeAt at h
  split at h
  · rename_i t d vs sl
    split at h
    · rename_i ht
      split at h
      · rename_i a ha
        have ea := Nat.eq_of_beq_eq_true h
        subst ea
        refine ⟨_, vs, rfl, by rw [eqLit_is "code" (by decide +kernel) ht], rfl, ?_⟩
        rw [List.getD_eq_getElem?_getD, Array.getElem?_toList] at ha
        cases q : vs[11]? with
        | none => rw [q] at ha; cases ha
        | some v =>
          rw [q] at ha
          simp only [Option.getD_some] at ha
          rw [ha]
      · cases h
    · cases h
  · cases h
noncomputable def tab0 (o : Option Obj) : Bool := match o with
  | some ⟨.none, none, .fields vs, sl⟩ => match vs.toList with
    | [] => match sl.toList with
      | [] => true
      | _ :: _ => false
    | _ :: _ => false
  | _ => false
theorem tab0_is {o : Option Obj} (h : tab0 o = true) : o = some oC0 := by
  unfold tab0 at h
  split at h
  · rename_i vs sl
    split at h
    · rename_i e1
      split at h
      · rename_i e2
        have : vs = #[] := Array.ext' e1
        subst this
        have : sl = #[] := Array.ext' e2
        subst this
        rfl
      · cases h
    · cases h
  · cases h
theorem at254 (P : Params) : codeAt ((hdz.ktop_568 P).get 254) = true := by kernel_rfl
theorem at250 (P : Params) : tab0 ((hdz.ktop_568 P).get 250) = true := by kernel_rfl
theorem at288 (P : Params) : ((kt0 P).get 288).isNone = true := by kernel_rfl
theorem law_code (w : World) (s : Shared) (its : List Value) (zs : List Int) (R : Result → Shared → Prop) (hK : KT.Holds s.heap 1 0 (hdz.ktop_568 w.params)) (hs : s.heap.get? 288 = some { cls := .type "list", data := .seq its.toArray }) (hI : IntsAre its zs) (h63 : zs.length ≤ 63)
    (hR : ∀ h tk, OldK s.heap h → R (.ok (.ret (.bool true))) ⟨h, s.gens, s.drawn, tk, s.os⟩) : codeAny (model PySem.Challenge.pw_pg0277_01 w) callerA (.call (.ref 287) ⟨[.ref 288], []⟩) R s := by
  have hko : ∀ b o, ko w.params b o → s.heap.get? b = some o ∧ b ≠ 250 := fun b o q => by
    obtain ⟨e1, e2⟩ := kdel_get (t := hdz.ktop_568 w.params) q
    exact ⟨kt_at hK e1, e2⟩
  have h250 : s.heap.get? 250 = some oC0 := kt_at hK (tab0_is (at250 w.params))
  obtain ⟨ob, vs, e1, e2, e3, e4⟩ := codeAt_is (at254 w.params)
  have hcode : isCodeTable s.heap 250 := ⟨254, ob, vs, kt_at hK e1, e2, e3, e4⟩
  refine law_spec w hI h63 callerA R s rfl (by show 1 + claimMargin ≤ 305; decide) (by show 4 ≤ 100; decide) ⟨fun b o q => (hko b o q).1, fun p hp => ?_, (by decide : ([288, 250] : List Nat).Nodup)⟩ fun ws h tk E => hR h tk ⟨fun b o e => ?_, fun b o e => ?_⟩
  · simp only [List.mem_cons, List.not_mem_nil, or_false] at hp
    rcases hp with rfl | rfl
    · refine ⟨hs, fun o' q => ?_⟩
      have n := at288 w.params
      have q : (kt0 w.params).get 288 = some o' := q
      rw [q] at n
      cases n
    · exact ⟨h250, fun o' q => (hko 250 o' q).2 rfl⟩
  · by_cases hb : b = 250
    · subst hb
      have e : s.heap.get? 250 = some o := e
      rw [h250] at e
      cases e
      exact .inr (.inl ⟨hcode, rfl, #[], #[.int 175 0, .int 4 0, .ref (ws.getD 0 0)], rfl, (E.own 1 250 _ rfl rfl).trans (by rfl)⟩)
    · by_cases hb2 : b = 288
      · subst hb2
        have e : s.heap.get? 288 = some o := e
        rw [hs] at e
        cases e
        exact .inl (E.own 0 288 _ rfl rfl)
      · exact .inl (E.keep b o e (by simp [hb, hb2]))
  · by_cases hb : b = 250
    · subst hb; exact ⟨_, E.own 1 250 _ rfl rfl⟩
    · by_cases hb2 : b = 288
      · subst hb2; exact ⟨_, E.own 0 288 _ rfl rfl⟩
      · exact ⟨o, E.keep b o e (by simp [hb, hb2])⟩
end Mine
theorem PySem.Challenge.cw_pg0277_01_holds : PySem.Challenge.rw_pg0277_01.Holds :=
  Mine.hdzN Mine.law_code
