import PyProof.Rows.All
import Wide.All
import Open.Line
import OpenK.KCell
import OpenK.KMore
import OpenK.KMeth
import OpenK.KTop
import OpenK.KWalk
import OpenK.KList
import Wide.FinOn
import PySem.Challenge.RW_pd0172_01
open PySem PySem.W PySem.Calls PyProof.Rows
set_option Elab.async false
set_option maxRecDepth 100000
set_option maxHeartbeats 8000000
set_option autoImplicit false
set_option linter.unusedVariables false
namespace Mine
/-- an abstract value: plain data, or the number of a list that is tracked (and may change) -/
inductive AV where
  | d (x : PyData)
  | r (i : Nat)
  | t (T : String)
abbrev AH := List (List PyData)
abbrev Lo := List (Option AV)

noncomputable def seqy (o : Obj) : Bool := match o.data with | .seq .. => true | _ => false

/-- the tracked lists lie in the heap as told -/
structure HR (as : List Addr) (H : AH) (h : Heap) : Prop where
  len : as.length = H.length
  nd : as.Nodup
  ls : ∀ (i : Nat) (a : Addr) (l : List PyData), as[i]? = some a → H[i]? = some l → ∃ vs n bs, h.get? a = some (listOf (List.toArray vs) n) ∧ PyData.canLayAll0 l = true ∧ ReadsAll h vs l bs ∧ ∀ b ∈ bs, b ∉ as

noncomputable def VR (h : Heap) (as : List Addr) (v : Value) : AV → Prop
  | .d x => x.canLay0 = true ∧ ∃ bs, Reads h v x bs ∧ ∀ b ∈ bs, b ∉ as
  | .r i => ∃ a, v = .ref a ∧ as[i]? = some a
  | .t T => v = .type T

inductive VRs (h : Heap) (as : List Addr) : List Value → List AV → Prop where
  | nil : VRs h as [] []
  | cons {v : Value} {vs : List Value} {x : AV} {xs : List AV} : VR h as v x → VRs h as vs xs → VRs h as (v :: vs) (x :: xs)

/-- what a piece of the run keeps -/
structure Stp (U as : List Addr) (h : Heap) (as' : List Addr) (h' : Heap) : Prop where
  pre : as <+: as'
  new : ∀ a ∈ as', a ∉ as → h.get? a = none
  keep : ∀ b o, h.get? b = some o → b ∉ as → (b ∈ U → seqy o = true) → h'.get? b = some o
  dom : ∀ b o, h.get? b = some o → ∃ o', h'.get? b = some o'

/-- the same, nothing said of what is still there -/
structure Stp0 (U as : List Addr) (h : Heap) (as' : List Addr) (h' : Heap) : Prop where
  pre : as <+: as'
  new : ∀ a ∈ as', a ∉ as → h.get? a = none
  keep : ∀ b o, h.get? b = some o → b ∉ as → (b ∈ U → seqy o = true) → h'.get? b = some o

section
variable {U as as' as'' : List Addr} {h h' h'' : Heap} {H H' : AH}
theorem Stp.to0 (s : Stp U as h as' h') : Stp0 U as h as' h' := ⟨s.pre, s.new, s.keep⟩
theorem Stp0.out (a : Stp0 U as h as' h') {b : Addr} {o : Obj} (e : h.get? b = some o) (n : b ∉ as) : b ∉ as' := fun m => by have := a.new _ m n; rw [e] at this; cases this
theorem HR.seq (x : HR as H h) {a : Addr} (ha : a ∈ as) : ∃ vs n, h.get? a = some (listOf vs n) := by
  obtain ⟨i, hi, rfl⟩ := List.mem_iff_getElem.mp ha
  obtain ⟨vs, n, _, e, _⟩ := x.ls i _ (H[i]'(x.len ▸ hi)) (List.getElem?_eq_getElem hi) (List.getElem?_eq_getElem _)
  exact ⟨_, n, e⟩

theorem HR.notIn (x : HR as H h) {a : Addr} {o : Obj} (e : h.get? a = some o) (hs : o.cls ≠ .type "list") : a ∉ as := fun ha => by
  obtain ⟨vs, n, e'⟩ := x.seq ha
  rw [e] at e'; cases e'; exact hs rfl

theorem HR.notDict (x : HR as H h) {a : Addr} {o : Obj} (e : h.get? a = some o) (hs : seqy o = false) : a ∉ as := fun ha => by
  obtain ⟨vs, n, e'⟩ := x.seq ha
  rw [e] at e'; cases e'; cases hs

theorem Stp.refl : Stp U as h as h := ⟨List.prefix_refl _, fun _ h1 h2 => absurd h1 h2, fun _ _ e _ _ => e, fun _ o e => ⟨o, e⟩⟩
theorem Stp.out (a : Stp U as h as' h') {b : Addr} {o : Obj} (e : h.get? b = some o) (n : b ∉ as) : b ∉ as' := fun m => by have := a.new _ m n; rw [e] at this; cases this
theorem Stp.trans (a : Stp U as h as' h') (b : Stp U as' h' as'' h'') : Stp U as h as'' h'' := by
  refine ⟨a.pre.trans b.pre, fun x hx hn => ?_, fun x o e hn hu => b.keep x o (a.keep x o e hn hu) (a.out e hn) hu, fun x o e => ?_⟩
  · by_cases hm : x ∈ as'
    · exact a.new x hm hn
    · have q := b.new x hx hm
      cases e : h.get? x with
      | none => rfl
      | some o => obtain ⟨o', e'⟩ := a.dom x o e; rw [q] at e'; cases e'
  · obtain ⟨o', e'⟩ := a.dom x o e; exact b.dom x o' e'
theorem Stp.weaken {V : List Addr} (a : Stp U as h as' h') (hu : ∀ x ∈ U, x ∈ V) : Stp V as h as' h' := ⟨a.pre, a.new, fun b o e n k => a.keep b o e n (fun z => k (hu b z)), a.dom⟩

theorem reads_both {M : Value → PyData → List Addr → Prop} {N : List Value → List PyData → List Addr → Prop} (h0 : M .none .none []) (h1 : ∀ b, M (.bool b) (.bool b) []) (h2 : ∀ i t, M (.int i t) (.int i) []) (h3 : ∀ x t, M (.str x t) (.str x) [])
    (h4 : ∀ a o vs n xs bs, h.get? a = some o → o.cls = .type "list" → o.data = .seq vs n → PyData.canLayAll0 xs = true → N vs.toList xs bs → M (.ref a) (.list xs) (a :: bs)) (h5 : ∀ a o vs n xs bs, h.get? a = some o → o.cls = .type "tuple" → o.data = .seq vs n → PyData.canLayAll0 xs = true → N vs.toList xs bs → M (.ref a) (.tuple xs) bs)
    (h6 : N [] [] []) (h7 : ∀ v vs x xs bs cs, M v x bs → N vs xs cs → N (v :: vs) (x :: xs) (bs ++ cs)) : (∀ {v x bs}, x.canLay0 = true → Reads h v x bs → M v x bs) ∧ ∀ {vs xs bs}, PyData.canLayAll0 xs = true → ReadsAll h vs xs bs → N vs xs bs := by
  have c7 : ∀ {v vs x xs bs cs}, Reads h v x bs → ReadsAll h vs xs cs → (x.canLay0 = true → M v x bs) → (PyData.canLayAll0 xs = true → N vs xs cs) → PyData.canLayAll0 (x :: xs) = true → N (v :: vs) (x :: xs) (bs ++ cs) := fun _ _ a b hc => by
    have hc := Bool.and_eq_true_iff.mp hc
    exact h7 _ _ _ _ _ _ (a hc.1) (b hc.2)
  exact ⟨fun hc r => Reads.rec (motive_1 := fun v x bs _ => x.canLay0 = true → M v x bs) (motive_2 := fun vs xs bs _ => PyData.canLayAll0 xs = true → N vs xs bs) (fun _ => h0) (fun b _ => h1 b) (fun i t _ => h2 i t) (fun x t _ => h3 x t)
      (fun e1 e2 e3 _ k hc => h4 _ _ _ _ _ _ e1 e2 e3 hc (k hc)) (fun e1 e2 e3 _ k hc => h5 _ _ _ _ _ _ e1 e2 e3 hc (k hc)) (fun _ _ _ _ _ _ _ hc => nomatch hc) (fun _ => h6) c7 r hc,
    fun hc r => ReadsAll.rec (motive_1 := fun v x bs _ => x.canLay0 = true → M v x bs) (motive_2 := fun vs xs bs _ => PyData.canLayAll0 xs = true → N vs xs bs) (fun _ => h0) (fun b _ => h1 b) (fun i t _ => h2 i t) (fun x t _ => h3 x t)
      (fun e1 e2 e3 _ k hc => h4 _ _ _ _ _ _ e1 e2 e3 hc (k hc)) (fun e1 e2 e3 _ k hc => h5 _ _ _ _ _ _ e1 e2 e3 hc (k hc)) (fun _ _ _ _ _ _ _ hc => nomatch hc) (fun _ => h6) c7 r hc⟩
theorem reads_steps (hk : ∀ b o, h.get? b = some o → b ∉ as → seqy o = true → h'.get? b = some o) (ht : ∀ b o, h.get? b = some o → o.cls = .type "tuple" → b ∉ as) :
    (∀ {v x bs}, x.canLay0 = true → Reads h v x bs → (∀ b ∈ bs, b ∉ as) → Reads h' v x bs) ∧ ∀ {vs xs bs}, PyData.canLayAll0 xs = true → ReadsAll h vs xs bs → (∀ b ∈ bs, b ∉ as) → ReadsAll h' vs xs bs :=
  reads_both (fun _ => .none) (fun b _ => .bool b) (fun i t _ => .int i t) (fun x t _ => .str x t)
    (fun _ _ _ _ _ _ e1 e2 e3 _ k hb => .list (hk _ _ e1 (hb _ (.head _)) (by unfold seqy; rw [e3])) e2 e3 (k fun b hm => hb b (.tail _ hm)))
    (fun _ _ _ _ _ _ e1 e2 e3 _ k hb => .tuple (hk _ _ e1 (ht _ _ e1 e2) (by unfold seqy; rw [e3])) e2 e3 (k hb))
    (fun _ => .nil) (fun _ _ _ _ _ _ a b hb => .cons (a fun x hm => hb x (List.mem_append_left _ hm)) (b fun x hm => hb x (List.mem_append_right _ hm)))
theorem reads_step (hk : ∀ b o, h.get? b = some o → b ∉ as → seqy o = true → h'.get? b = some o) (ht : ∀ b o, h.get? b = some o → o.cls = .type "tuple" → b ∉ as) {x : PyData} {v : Value} {bs : List Addr} (hc : x.canLay0 = true) (r : Reads h v x bs) (hb : ∀ b ∈ bs, b ∉ as) : Reads h' v x bs := (reads_steps hk ht).1 hc r hb
theorem readsAll_step (hk : ∀ b o, h.get? b = some o → b ∉ as → seqy o = true → h'.get? b = some o) (ht : ∀ b o, h.get? b = some o → o.cls = .type "tuple" → b ∉ as) {xs : List PyData} {vs : List Value} {bs : List Addr} (hc : PyData.canLayAll0 xs = true) (r : ReadsAll h vs xs bs) (hb : ∀ b ∈ bs, b ∉ as) : ReadsAll h' vs xs bs := (reads_steps hk ht).2 hc r hb

theorem HR.tup (x : HR as H h) : ∀ b o, h.get? b = some o → o.cls = .type "tuple" → b ∉ as := fun _ _ e c => x.notIn e (by rw [c]; decide)
theorem reads_doms : (∀ {v x bs}, x.canLay0 = true → Reads h v x bs → ∀ b ∈ bs, ∃ o, h.get? b = some o) ∧ ∀ {vs xs bs}, PyData.canLayAll0 xs = true → ReadsAll h vs xs bs → ∀ b ∈ bs, ∃ o, h.get? b = some o :=
  reads_both (M := fun _ _ bs => ∀ b ∈ bs, ∃ o, h.get? b = some o) (N := fun _ _ bs => ∀ b ∈ bs, ∃ o, h.get? b = some o) (fun _ h => nomatch h) (fun _ _ h => nomatch h) (fun _ _ _ h => nomatch h) (fun _ _ _ h => nomatch h)
    (fun _ _ _ _ _ _ e1 _ _ _ k b hb => (List.mem_cons.mp hb).elim (fun q => q ▸ ⟨_, e1⟩) (k b)) (fun _ _ _ _ _ _ _ _ _ _ k => k) (fun _ h => nomatch h) (fun _ _ _ _ _ _ k1 k2 b hb => (List.mem_append.mp hb).elim (k1 b) (k2 b))
theorem reads_dom {x : PyData} {v : Value} {bs : List Addr} (hc : x.canLay0 = true) (r : Reads h v x bs) : ∀ b ∈ bs, ∃ o, h.get? b = some o := reads_doms.1 hc r
theorem readsAll_dom {xs : List PyData} {vs : List Value} {bs : List Addr} (hc : PyData.canLayAll0 xs = true) (r : ReadsAll h vs xs bs) : ∀ b ∈ bs, ∃ o, h.get? b = some o := reads_doms.2 hc r

theorem VR.step0 {v : Value} {x : AV} (r : VR h as v x) (hr : HR as H h) (s : Stp0 U as h as' h') : VR h' as' v x := by
  cases x with
  | d x =>
    obtain ⟨hc, bs, hb, hn⟩ := r
    refine ⟨hc, bs, reads_step (fun b o e n q => s.keep b o e n fun _ => q) hr.tup hc hb hn, fun b m => ?_⟩
    obtain ⟨o, e⟩ := reads_dom hc hb b m
    exact s.out e (hn b m)
  | r i =>
    obtain ⟨a, rfl, e⟩ := r
    obtain ⟨l, rfl⟩ := s.pre
    exact ⟨a, rfl, by rw [List.getElem?_append_left (List.getElem?_eq_some_iff.mp e).1]; exact e⟩
  | t T => exact r
theorem VR.step {v : Value} {x : AV} (r : VR h as v x) (hr : HR as H h) (s : Stp U as h as' h') : VR h' as' v x := r.step0 hr s.to0
theorem VRs.step {vs : List Value} {xs : List AV} (r : VRs h as vs xs) (hr : HR as H h) (s : Stp U as h as' h') : VRs h' as' vs xs := by
  induction r with
  | nil => exact .nil
  | cons a _ ih => exact .cons (a.step hr s) ih

/-- tracked lists go on through a run that changes none of them -/
theorem HR.step (hr : HR as H h) (s : Stp0 U as h as h') (hk : ∀ a ∈ as, ∀ o, h.get? a = some o → h'.get? a = some o) : HR as H h' := by
  refine ⟨hr.len, hr.nd, fun i a l e1 e2 => ?_⟩
  obtain ⟨vs, n, bs, e, hc, r, hn⟩ := hr.ls i a l e1 e2
  exact ⟨vs, n, bs, hk a (List.mem_of_getElem? e1) _ e, hc, readsAll_step (fun b o e n q => s.keep b o e n fun _ => q) hr.tup hc r hn, hn⟩

/-- an untracked object is made -/
theorem stp_push (o : Obj) : Stp U as h as (h.push o) := ⟨List.prefix_refl _, fun _ h1 h2 => absurd h1 h2, fun _ _ e _ _ => Heap.get?_push_of_some _ e, fun _ o e => ⟨o, Heap.get?_push_of_some _ e⟩⟩
theorem HR.push (hr : HR as H h) (o : Obj) : HR as H (h.push o) := hr.step (U := []) (stp_push o).to0 fun _ _ _ e => Heap.get?_push_of_some _ e
theorem size_none : h.get? h.objs.size = none := Heap.get?_none_of_le (Nat.le_refl _)

/-- a tracked list is made -/
theorem stp_track (o : Obj) : Stp U as h (as ++ [h.objs.size]) (h.push o) := by
  refine ⟨⟨_, rfl⟩, fun a h1 h2 => ?_, fun _ _ e _ _ => Heap.get?_push_of_some _ e, fun _ o e => ⟨o, Heap.get?_push_of_some _ e⟩⟩
  rcases List.mem_append.mp h1 with h1 | h1
  · exact absurd h1 h2
  · rw [List.mem_singleton.mp h1]; exact size_none
theorem HR.track (hr : HR as H h) {vs : List Value} {l : List PyData} {bs : List Addr} (hc : PyData.canLayAll0 l = true) (r : ReadsAll h vs l bs) (hn : ∀ b ∈ bs, b ∉ as) (n : Nat) :
    HR (as ++ [h.objs.size]) (H ++ [l]) (h.push (listOf vs.toArray n)) := by
  have hnew : h.objs.size ∉ as := fun m => by obtain ⟨_, _, e⟩ := hr.seq m; rw [size_none] at e; cases e
  have st : Stp [] as h (as ++ [h.objs.size]) (h.push (listOf vs.toArray n)) := stp_track _
  have up : ∀ {xs : List PyData} {ws : List Value} {cs : List Addr}, PyData.canLayAll0 xs = true → ReadsAll h ws xs cs → (∀ b ∈ cs, b ∉ as) → ReadsAll (h.push (listOf vs.toArray n)) ws xs cs ∧ ∀ b ∈ cs, b ∉ as ++ [h.objs.size] := fun hx hw hb =>
    ⟨readsAll_step (fun b o e n q => st.keep b o e n fun _ => q) hr.tup hx hw hb, fun b m => by obtain ⟨o, e⟩ := readsAll_dom hx hw b m; exact st.out e (hb b m)⟩
  refine ⟨by simp [hr.len], List.nodup_append.mpr ⟨hr.nd, by simp, fun a ha b hb => ?_⟩, fun i a l' e1 e2 => ?_⟩
  · rw [List.mem_singleton.mp hb]; rintro rfl; exact hnew ha
  · by_cases hi : i < as.length
    · rw [List.getElem?_append_left hi] at e1
      rw [List.getElem?_append_left (hr.len ▸ hi)] at e2
      obtain ⟨ws, k, cs, e, hx, hw, hb⟩ := hr.ls i a l' e1 e2
      exact ⟨ws, k, cs, Heap.get?_push_of_some _ e, hx, up hx hw hb⟩
    · have hj : i = as.length := by
        have := (List.getElem?_eq_some_iff.mp e1).1
        simp at this; omega
      subst hj
      rw [List.getElem?_append_right (Nat.le_refl _), Nat.sub_self] at e1
      rw [List.getElem?_append_right (by rw [hr.len]; exact Nat.le_refl _), hr.len, Nat.sub_self] at e2
      cases e1; cases e2
      exact ⟨vs, n, bs, Heap.get?_push_size _ rfl, hc, up hc r hn⟩

/-- a tracked list is changed -/
theorem stp_set {a : Addr} (ha : a ∈ as) {f : Obj → Obj} (hf : ∀ o, h.get? a = some o → (f o).isFreed = false) : Stp U as h as (h.update a f) := by
  have ne : ∀ b, b ∉ as → b ≠ a := fun b n e => n (e ▸ ha)
  refine ⟨List.prefix_refl _, fun _ h1 h2 => absurd h1 h2, fun b o e n _ => by rw [Heap.get?_update_ne _ _ _ _ (ne b n)]; exact e, fun b o e => ?_⟩
  by_cases hb : b = a
  · subst hb; exact ⟨_, Heap.get?_update_self f e (hf o e)⟩
  · exact ⟨o, by rw [Heap.get?_update_ne _ _ _ _ hb]; exact e⟩
theorem HR.set (hr : HR as H h) {i : Nat} {a : Addr} (hi : as[i]? = some a) {vs : List Value} {l : List PyData} {bs : List Addr} (hc : PyData.canLayAll0 l = true) (r : ReadsAll h vs l bs) (hn : ∀ b ∈ bs, b ∉ as)
    {f : Obj → Obj} {n : Nat} (hf : ∀ o, h.get? a = some o → f o = listOf vs.toArray n) : HR as (H.set i l) (h.update a f) := by
  have st : Stp [] as h as (h.update a f) := stp_set (List.mem_of_getElem? hi) fun o e => by rw [hf o e]; rfl
  refine ⟨by rw [hr.len, List.length_set], hr.nd, fun j b l' e1 e2 => ?_⟩
  have up : ∀ {xs : List PyData} {ws : List Value} {cs : List Addr}, PyData.canLayAll0 xs = true → ReadsAll h ws xs cs → (∀ b ∈ cs, b ∉ as) → ReadsAll (h.update a f) ws xs cs := fun hx hw hb => readsAll_step (fun b o e n q => st.keep b o e n fun _ => q) hr.tup hx hw hb
  by_cases hj : i = j
  · subst hj
    rw [hi] at e1; cases e1
    have hlt : i < H.length := hr.len ▸ (List.getElem?_eq_some_iff.mp hi).1
    rw [List.getElem?_set_self hlt] at e2; cases e2
    obtain ⟨_, _, e⟩ := hr.seq (List.mem_of_getElem? hi)
    exact ⟨vs, n, bs, by rw [Heap.get?_update_self f e (by rw [hf _ e]; rfl), hf _ e], hc, up hc r hn, hn⟩
  · rw [List.getElem?_set_ne hj] at e2
    obtain ⟨ws, k, cs, e, hx, hw, hb⟩ := hr.ls j b l' e1 e2
    have ne : b ≠ a := by
      rintro rfl
      exact hj ((List.getElem?_inj (List.getElem?_eq_some_iff.mp hi).1 hr.nd).mp (hi.trans e1.symm))
    exact ⟨ws, k, cs, by rw [Heap.get?_update_ne _ _ _ _ ne]; exact e, hx, up hx hw hb, hb⟩
end
/-- the world of the run: program, the top's facts -/
structure Gx where
  prog : Program
  w : World
  p : Program
  loose : List Str
  mean : ExcName → Option Value
  mg : Str → Option Value
  mb : Str → Option Value
abbrev Gx.M (g : Gx) : Model := model g.prog g.w

/-- a function's frame -/
structure Cx where
  A : Around
  fenv : Env
  outer : List Env
  A₀ : Around
  base : Heap
  h₀ : Heap
  L : Addr
  lv : Nat

structure Ok (g : Gx) (c : Cx) (as : List Addr) (h : Heap) : Prop where
  B : Below c.A₀ c.base c.outer c.h₀
  T : Top g.p g.loose g.mean g.mg g.mb c.h₀
  Tb : Top g.p g.loose g.mean g.mg g.mb c.base
  fr : c.A.frames = some (c.fenv :: c.outer)
  ff : c.fenv.frame = some c.L
  fk : c.fenv.scope.kind = .function
  room : c.A.depth + c.lv < recursionLimit
  units : c.A.units + 200 + 10 * c.lv < cLine
  F : ∃ m, Fr c.h₀ c.L h m
  nw : ∀ a ∈ as, c.h₀.get? a = none

noncomputable def NameAt (env : Env) (h : Heap) (as : List Addr) (x : Str) (av : AV) : Prop :=
  env.scope.kind = .function ∧ ∃ v, VR h as v av ∧ ((env.kindOf x = some .local ∧ ∃ m, h.Ns env.locals m ∧ m x = some v) ∨
    (env.kindOf x = some .cell ∧ ∃ c, env.cells.lookup x = some c ∧ h.IsCell c (some v)))

noncomputable def LO (env : Env) (ns : List Str) (lo : Lo) (as : List Addr) (h : Heap) : Prop :=
  ∀ (i : Nat) (x : Str) (v : AV), ns[i]? = some x → lo[i]? = some (some v) → NameAt env h as x v

structure Pre (g : Gx) (c : Cx) (env : Env) (ns : List Str) (as : List Addr) (lo : Lo) (H : AH) (h : Heap) : Prop where
  ok : Ok g c as h
  lo : LO env ns lo as h
  hr : HR as H h
  cl : ∀ p ∈ env.cells, c.h₀.get? p.2 = none ∧ ∃ w, h.IsCell p.2 w

structure Post (as : List Addr) (h : Heap) (as' : List Addr) (H' : AH) (h' : Heap) : Prop where
  st : Stp [] as h as' h'
  hr : HR as' H' h'

section
variable {g : Gx} {c : Cx} {env : Env} {ns : List Str} {as as' as'' : List Addr} {lo : Lo} {H H' H'' : AH} {h h' h'' : Heap}
theorem Post.refl (hr : HR as H h) : Post as h as H h := ⟨.refl, hr⟩
theorem Post.trans (a : Post as h as' H' h') (b : Post as' h' as'' H'' h'') : Post as h as'' H'' h'' := ⟨a.st.trans b.st, b.hr⟩

theorem ns_keep {U : List Addr} {m : Str → Option Value} {L : Addr} (n : h.Ns L m) (hr : HR as H h) (s : Stp0 U as h as' h') (hu : L ∉ U) : h'.Ns L m := by
  obtain ⟨o, es, ep, ho, hd, r⟩ := n
  exact ⟨o, es, ep, s.keep _ _ ho (hr.notDict ho (by unfold seqy; rw [hd])) (fun z => absurd z hu), hd, r⟩
theorem cell_keep {U : List Addr} {L : Addr} {v : Option Value} (n : h.IsCell L v) (hr : HR as H h) (s : Stp0 U as h as' h') (hu : L ∉ U) : h'.IsCell L v := by
  obtain ⟨o, ho, hd⟩ := n
  exact ⟨o, s.keep _ _ ho (hr.notDict ho (by unfold seqy; rw [hd])) (fun z => absurd z hu), hd⟩
/-- what may change beside the tracked lists is none of the frame's -/
structure Off (c : Cx) (env : Env) (U : List Addr) : Prop where
  L : c.L ∉ U
  loc : env.locals ∉ U
  cell : ∀ p ∈ env.cells, p.2 ∉ U
  base : ∀ b ∈ U, c.h₀.get? b = none
theorem Off.nil : Off c env [] := ⟨List.not_mem_nil, List.not_mem_nil, fun _ _ => List.not_mem_nil, fun _ h => (nomatch h)⟩
theorem Pre.stepU {U : List Addr} (q : Pre g c env ns as lo H h) (s : Stp0 U as h as' h') (hr : HR as' H' h') (of : Off c env U) : Pre g c env ns as' lo H' h' := by
  obtain ⟨m, F⟩ := q.ok.F
  have keep : ∀ b o, c.h₀.get? b = some o → h'.get? b = some o := fun b o e => s.keep b o (F.keep b o e) (fun z => by have := q.ok.nw b z; rw [e] at this; cases this) (fun z => by have := of.base b z; rw [e] at this; cases this)
  refine ⟨⟨q.ok.B, q.ok.T, q.ok.Tb, q.ok.fr, q.ok.ff, q.ok.fk, q.ok.room, q.ok.units, ⟨m, ⟨ns_keep F.ns q.hr s of.L, keep, F.above⟩⟩, fun a ha => ?_⟩, fun i x v e1 e2 => ?_, hr, fun p hp => ⟨(q.cl p hp).1, ?_⟩⟩
  · by_cases hm : a ∈ as
    · exact q.ok.nw a hm
    · cases e : c.h₀.get? a with
      | none => rfl
      | some o => have := s.new a ha hm; rw [F.keep a o e] at this; cases this
  · obtain ⟨k, u, hv, z⟩ := q.lo i x v e1 e2
    refine ⟨k, u, hv.step0 q.hr s, z.imp ?_ ?_⟩
    · rintro ⟨e, m, n, hm⟩; exact ⟨e, m, ns_keep n q.hr s of.loc, hm⟩
    · rintro ⟨e, a, n, hm⟩
      refine ⟨e, a, n, cell_keep hm q.hr s ?_⟩
      have : ∀ {l : List (Str × Addr)}, l.lookup x = some a → ∃ p ∈ l, p.2 = a := by
        intro l
        induction l with
        | nil => intro e; cases e
        | cons p l ih =>
          intro e
          obtain ⟨p1, p2⟩ := p
          rw [List.lookup_cons] at e
          split at e
          · cases e; exact ⟨_, .head _, rfl⟩
          · obtain ⟨q, hq, hr⟩ := ih e; exact ⟨q, .tail _ hq, hr⟩
      obtain ⟨p, hp, rfl⟩ := this n
      exact of.cell p hp
  · obtain ⟨w, hw⟩ := (q.cl p hp).2; exact ⟨w, cell_keep hw q.hr s (of.cell p hp)⟩
theorem Pre.step (q : Pre g c env ns as lo H h) (s : Post as h as' H' h') : Pre g c env ns as' lo H' h' := q.stepU s.st.to0 s.hr .nil
end

/-- an expression is told by f -/
noncomputable def SE (g : Gx) (c : Cx) (env : Env) (ns : List Str) (e : Expr) (f : Lo → AH → Option (AV × AH)) : Prop :=
  ∀ (as : List Addr) (lo : Lo) (H : AH) (s : Shared) (Q E : Value → Shared → Prop) (x : AV) (H' : AH), Pre g c env ns as lo H s.heap → f lo H = some (x, H') →
    (∀ as' v h' tk, Post as s.heap as' H' h' → VR h' as' v x → Q v { s with heap := h', toks := tk }) → wpAny g.M c.A (eval e env) Q E s

/-- a test is told by f -/
noncomputable def ST (g : Gx) (c : Cx) (env : Env) (ns : List Str) (e : Expr) (f : Lo → AH → Option (Bool × AH)) : Prop :=
  ∀ (as : List Addr) (lo : Lo) (H : AH) (s : Shared) (Q : Bool → Shared → Prop) (E : Value → Shared → Prop) (b : Bool) (H' : AH), Pre g c env ns as lo H s.heap → f lo H = some (b, H') →
    (∀ as' h' tk, Post as s.heap as' H' h' → Q b { s with heap := h', toks := tk }) → wpAny g.M c.A (isTrue e env (eval e env)) Q E s

/-- expressions in a row -/
noncomputable def SEs (g : Gx) (c : Cx) (env : Env) (ns : List Str) (es : List Expr) (f : Lo → AH → Option (List AV × AH)) : Prop :=
  ∀ (pos : Pos) (as : List Addr) (lo : Lo) (H : AH) (s : Shared) (Q : List Value → Shared → Prop) (E : Value → Shared → Prop) (x : List AV) (H' : AH), Pre g c env ns as lo H s.heap → f lo H = some (x, H') →
    (∀ as' v h' tk, Post as s.heap as' H' h' → VRs h' as' v x → Q v { s with heap := h', toks := tk }) → wpAny g.M c.A (spliced (backTo pos (starEach es env))) Q E s

noncomputable def ldD (i : Nat) (lo : Lo) (H : AH) : Option (AV × AH) := match lo[i]? with
  | some (some v) => some (v, H)
  | _ => none
noncomputable def kD (x : PyData) (_ : Lo) (H : AH) : Option (AV × AH) := some (.d x, H)
/-- one value from two, the heap left as it is -/
noncomputable def opD (o : AV → AV → AH → Option AV) (f1 f2 : Lo → AH → Option (AV × AH)) (lo : Lo) (H : AH) : Option (AV × AH) :=
  (f1 lo H).bind fun p => (f2 lo p.2).bind fun q => (o p.1 q.1 q.2).map fun z => (z, q.2)

section
variable {g : Gx} {c : Cx} {env : Env} {ns : List Str} {pos : Pos}
theorem SE.name {x : Str} {i : Nat} (hi : ns[i]? = some x) (hd : (x == ("__debug__" : Str)) = false := by decide) : SE g c env ns (.Name x pos) (ldD i) := by
  intro as lo H s Q E v H' P e k
  unfold ldD at e
  split at e
  · rename_i v' hv
    cases e
    obtain ⟨hk, u, hu, q⟩ := P.lo i x v hi hv
    refine wpAny_Name ?_ hd
    rcases q with ⟨e, m, n, hm⟩ | ⟨e, a, n, hm⟩
    · exact wpAny_loadName_local hk e n hm (k as u s.heap s.toks (.refl P.hr) hu)
    · exact wpAny_loadName_cell hk e n hm (k as u s.heap s.toks (.refl P.hr) hu)
  · cases e

theorem VR.none {h : Heap} {as : List Addr} : VR h as .none (.d .none) := ⟨rfl, [], .none, fun _ h => (nomatch h)⟩
theorem VR.bool {h : Heap} {as : List Addr} (b : Bool) : VR h as (.bool b) (.d (.bool b)) := ⟨rfl, [], .bool b, fun _ h => (nomatch h)⟩
theorem VR.int {h : Heap} {as : List Addr} (i : Int) (t : Tok) : VR h as (.int i t) (.d (.int i)) := ⟨rfl, [], .int i t, fun _ h => (nomatch h)⟩
theorem VR.str {h : Heap} {as : List Addr} (x : Str) (t : Tok) (hx : PyData.strOk x = true) : VR h as (.str x t) (.d (.str x)) := ⟨hx, [], .str x t, fun _ h => (nomatch h)⟩
theorem VR.unint {h : Heap} {as : List Addr} {v : Value} {i : Int} (r : VR h as v (.d (.int i))) : ∃ t, v = .int i t := by
  obtain ⟨_, bs, q, _⟩ := r; cases q; exact ⟨_, rfl⟩
theorem VR.unstr {h : Heap} {as : List Addr} {v : Value} {x : Str} (r : VR h as v (.d (.str x))) : PyData.strOk x = true ∧ ∃ t, v = .str x t := by
  obtain ⟨hc, bs, q, _⟩ := r; cases q; exact ⟨hc, _, rfl⟩
theorem VR.unbool {h : Heap} {as : List Addr} {v : Value} {b : Bool} (r : VR h as v (.d (.bool b))) : v = .bool b := by
  obtain ⟨_, bs, q, _⟩ := r; cases q; rfl
theorem VR.unnone {h : Heap} {as : List Addr} {v : Value} (r : VR h as v (.d .none)) : v = .none := by
  obtain ⟨_, bs, q, _⟩ := r; cases q; rfl

theorem SE.int {i : Int} {k : Nat} : SE g c env ns (.Constant (.int i) k pos) (kD (.int i)) := by
  intro as lo H s Q E v H' P e q
  cases e
  exact wpAny_Constant_int (q as _ s.heap _ (.refl P.hr) (.int _ _))
theorem SE.str {x : Str} {k : Nat} (hx : PyData.strOk x = true := by decide) : SE g c env ns (.Constant (.str x) k pos) (kD (.str x)) := by
  intro as lo H s Q E v H' P e q
  cases e
  exact Calls.Constant_str (q as _ s.heap _ (.refl P.hr) (.str _ _ hx))

/-- what an operator of two values does -/
noncomputable def OpOk (g : Gx) (t : Value → Value → Sem Value) (o : AV → AV → AH → Option AV) : Prop :=
  ∀ (A : Around) (as : List Addr) (H : AH) (s : Shared) (Q E : Value → Shared → Prop) (a b : Value) (x y z : AV), A.units + 100 < cLine → HR as H s.heap → VR s.heap as a x → VR s.heap as b y → o x y H = some z →
    (∀ v h' tk, Post as s.heap as H h' → VR h' as v z → Q v { s with heap := h', toks := tk }) → wpAny g.M A (t a b) Q E s

theorem Ok.un {c : Cx} {as : List Addr} {h : Heap} (k : Ok g c as h) : c.A.units + 100 < cLine := by have := k.units; omega

theorem SE.binop {l r : Expr} {op : Operator} {f1 f2 : Lo → AH → Option (AV × AH)} {o : AV → AV → AH → Option AV} (ho : OpOk g (binaryOp op) o) (h1 : SE g c env ns l f1) (h2 : SE g c env ns r f2) :
    SE g c env ns (.BinOp l op r pos) (opD o f1 f2) := by
  intro as lo H s Q E v H' P e k
  unfold opD at e
  obtain ⟨⟨x, H1⟩, e1, e⟩ := Option.bind_eq_some_iff.mp e
  obtain ⟨⟨y, H2⟩, e2, e⟩ := Option.bind_eq_some_iff.mp e
  obtain ⟨z, e3, e⟩ := Option.map_eq_some_iff.mp e
  cases e
  refine wpAny_BinOp (h1 as lo H s _ _ x H1 P e1 fun as1 a ha tk1 P1 v1 => ?_)
  refine h2 as1 lo H1 _ _ _ y H2 (P.step P1) e2 fun as2 b hb tk2 P2 v2 => ?_
  exact ho c.A as2 H2 _ _ _ a b x y v ((P.step P1).step P2).ok.un P2.hr (v1.step P1.hr P2.st) v2 e3 fun u h' tk P3 v3 => k as2 u h' tk ((P1.trans P2).trans P3) v3
theorem SE.cmp {l r : Expr} {op : CmpOp} {f1 f2 : Lo → AH → Option (AV × AH)} {o : AV → AV → AH → Option AV} (ho : OpOk g (compareOp op) o) (h1 : SE g c env ns l f1) (h2 : SE g c env ns r f2) (hm : behindInMarks op r = false := by rfl) :
    SE g c env ns (.Compare l [op] [r] pos) (opD o f1 f2) := by
  intro as lo H s Q E v H' P e k
  unfold opD at e
  obtain ⟨⟨x, H1⟩, e1, e⟩ := Option.bind_eq_some_iff.mp e
  obtain ⟨⟨y, H2⟩, e2, e⟩ := Option.bind_eq_some_iff.mp e
  obtain ⟨z, e3, e⟩ := Option.map_eq_some_iff.mp e
  cases e
  refine wpAny_Compare1 (h1 as lo H s _ _ x H1 P e1 fun as1 a ha tk1 P1 v1 => ?_) hm
  refine h2 as1 lo H1 _ _ _ y H2 (P.step P1) e2 fun as2 b hb tk2 P2 v2 => ?_
  exact ho c.A as2 H2 _ _ _ a b x y v ((P.step P1).step P2).ok.un P2.hr (v1.step P1.hr P2.st) v2 e3 fun u h' tk P3 v3 => k as2 u h' tk ((P1.trans P2).trans P3) v3

noncomputable def cmpD (o : AV → AV → AH → Option Bool) (f1 f2 : Lo → AH → Option (AV × AH)) (lo : Lo) (H : AH) : Option (Bool × AH) :=
  (f1 lo H).bind fun p => (f2 lo p.2).bind fun q => (o p.1 q.1 q.2).map fun z => (z, q.2)
noncomputable def boolAV (o : AV → AV → AH → Option Bool) (a b : AV) (H : AH) : Option AV := (o a b H).map fun z => .d (.bool z)
theorem ST.cmp {l r : Expr} {op : CmpOp} {f1 f2 : Lo → AH → Option (AV × AH)} {o : AV → AV → AH → Option Bool} (ho : OpOk g (compareOp op) (boolAV o)) (h1 : SE g c env ns l f1) (h2 : SE g c env ns r f2) (hm : behindInMarks op r = false := by rfl) :
    ST g c env ns (.Compare l [op] [r] pos) (cmpD o f1 f2) := by
  intro as lo H s Q E v H' P e k
  unfold cmpD at e
  obtain ⟨⟨x, H1⟩, e1, e⟩ := Option.bind_eq_some_iff.mp e
  obtain ⟨⟨y, H2⟩, e2, e⟩ := Option.bind_eq_some_iff.mp e
  obtain ⟨z, e3, e⟩ := Option.map_eq_some_iff.mp e
  cases e
  refine wpAny_isTrue_Compare1 (h1 as lo H s _ _ x H1 P e1 fun as1 a ha tk1 P1 v1 => ?_) hm
  refine h2 as1 lo H1 _ _ _ y H2 (P.step P1) e2 fun as2 b hb tk2 P2 v2 => ?_
  refine ho c.A as2 H2 _ _ _ a b x y (.d (.bool v)) ((P.step P1).step P2).ok.un P2.hr (v1.step P1.hr P2.st) v2 (by unfold boolAV; rw [e3]; rfl) fun u h' tk P3 v3 => ?_
  rw [v3.unbool]
  exact wpAny_truthy_bool (k as2 h' tk ((P1.trans P2).trans P3))
noncomputable def notD (f : Lo → AH → Option (Bool × AH)) (lo : Lo) (H : AH) : Option (Bool × AH) := (f lo H).map fun p => (!p.1, p.2)
noncomputable def andD (f1 f2 : Lo → AH → Option (Bool × AH)) (lo : Lo) (H : AH) : Option (Bool × AH) := (f1 lo H).bind fun p => if p.1 then f2 lo p.2 else some (false, p.2)
noncomputable def orD (f1 f2 : Lo → AH → Option (Bool × AH)) (lo : Lo) (H : AH) : Option (Bool × AH) := (f1 lo H).bind fun p => if p.1 then some (true, p.2) else f2 lo p.2
theorem ST.not {e : Expr} {f : Lo → AH → Option (Bool × AH)} (h1 : ST g c env ns e f) : ST g c env ns (.UnaryOp .Not e pos) (notD f) := by
  intro as lo H s Q E v H' P e k
  unfold notD at e
  obtain ⟨⟨x, H1⟩, e1, e⟩ := Option.map_eq_some_iff.mp e
  cases e
  exact isTrue_not (h1 as lo H s _ _ x H1 P e1 k)
theorem ST.and {e1 e2 : Expr} {f1 f2 : Lo → AH → Option (Bool × AH)} (h1 : ST g c env ns e1 f1) (h2 : ST g c env ns e2 f2) : ST g c env ns (.BoolOp .And [e1, e2] pos) (andD f1 f2) := by
  intro as lo H s Q E v H' P e k
  unfold andD at e
  obtain ⟨⟨x, H1⟩, q1, e⟩ := Option.bind_eq_some_iff.mp e
  refine isTrue_and (h1 as lo H s _ _ x H1 P q1 fun as1 ha tk1 P1 => ?_)
  cases x with
  | false => cases e; simp only [Bool.false_eq_true, if_false]; exact k as1 ha tk1 P1
  | true =>
    simp only [if_true] at e ⊢
    refine isTrue_and (h2 as1 lo H1 _ _ _ v H' (P.step P1) e fun as2 hb tk2 P2 => ?_)
    cases v with
    | false => simp only [Bool.false_eq_true, if_false]; exact k as2 hb tk2 (P1.trans P2)
    | true => simp only [if_true]; exact isTrue_and_nil (k as2 hb tk2 (P1.trans P2))
theorem ST.or {e1 e2 : Expr} {f1 f2 : Lo → AH → Option (Bool × AH)} (h1 : ST g c env ns e1 f1) (h2 : ST g c env ns e2 f2) : ST g c env ns (.BoolOp .Or [e1, e2] pos) (orD f1 f2) := by
  intro as lo H s Q E v H' P e k
  unfold orD at e
  obtain ⟨⟨x, H1⟩, q1, e⟩ := Option.bind_eq_some_iff.mp e
  refine isTrue_or (h1 as lo H s _ _ x H1 P q1 fun as1 ha tk1 P1 => ?_)
  cases x with
  | true => cases e; simp only [if_true]; exact k as1 ha tk1 P1
  | false =>
    simp only [Bool.false_eq_true, if_false] at e ⊢
    refine isTrue_or (h2 as1 lo H1 _ _ _ v H' (P.step P1) e fun as2 hb tk2 P2 => ?_)
    cases v with
    | true => simp only [if_true]; exact k as2 hb tk2 (P1.trans P2)
    | false => simp only [Bool.false_eq_true, if_false]; exact isTrue_or_nil (k as2 hb tk2 (P1.trans P2))

/-- what the truth of a value is -/
noncomputable def TrOk (g : Gx) (o : AV → AH → Option Bool) : Prop :=
  ∀ (A : Around) (as : List Addr) (H : AH) (s : Shared) (Q : Bool → Shared → Prop) (E : Value → Shared → Prop) (a : Value) (x : AV) (b : Bool), A.units + 100 < cLine → HR as H s.heap → VR s.heap as a x → o x H = some b →
    (∀ tk, Q b { s with toks := tk }) → wpAny g.M A (truthy a) Q E s
noncomputable def trD (o : AV → AH → Option Bool) (f : Lo → AH → Option (AV × AH)) (lo : Lo) (H : AH) : Option (Bool × AH) := (f lo H).bind fun p => (o p.1 p.2).map fun b => (b, p.2)
theorem ST.plain {e : Expr} {o : AV → AH → Option Bool} {f : Lo → AH → Option (AV × AH)} (ho : TrOk g o) (h1 : SE g c env ns e f)
    (hp : ∀ whole, isTrue e env whole = (do let v ← whole; standAt e.pos; holding [v] (truthy v)) := by intro _; rfl) : ST g c env ns e (trD o f) := by
  intro as lo H s Q E v H' P e k
  unfold trD at e
  obtain ⟨⟨x, H1⟩, e1, e⟩ := Option.bind_eq_some_iff.mp e
  obtain ⟨z, e3, e⟩ := Option.map_eq_some_iff.mp e
  cases e
  refine isTrue_plain (h1 as lo H s _ _ x H1 P e1 fun as1 a ha tk1 P1 v1 => ?_) (hp _)
  exact ho c.A as1 H1 _ _ _ a x v (P.step P1).ok.un P1.hr v1 e3 fun tk => k as1 ha tk P1

noncomputable def ifD (t : Lo → AH → Option (Bool × AH)) (f1 f2 : Lo → AH → Option (AV × AH)) (lo : Lo) (H : AH) : Option (AV × AH) := (t lo H).bind fun p => if p.1 then f1 lo p.2 else f2 lo p.2
theorem SE.ifExp {t a b : Expr} {ft : Lo → AH → Option (Bool × AH)} {f1 f2 : Lo → AH → Option (AV × AH)} (ht : ST g c env ns t ft) (h1 : SE g c env ns a f1) (h2 : SE g c env ns b f2) : SE g c env ns (.IfExp t a b pos) (ifD ft f1 f2) := by
  intro as lo H s Q E v H' P e k
  unfold ifD at e
  obtain ⟨⟨x, H1⟩, q1, e⟩ := Option.bind_eq_some_iff.mp e
  refine IfExp_ (ht as lo H s _ _ x H1 P q1 fun as1 ha tk1 P1 => ?_)
  cases x with
  | true => simp only [if_true] at e ⊢; exact h1 as1 lo H1 _ _ _ v H' (P.step P1) e fun as2 u hb tk2 P2 hv => k as2 u hb tk2 (P1.trans P2) hv
  | false => simp only [Bool.false_eq_true, if_false] at e ⊢; exact h2 as1 lo H1 _ _ _ v H' (P.step P1) e fun as2 u hb tk2 P2 hv => k as2 u hb tk2 (P1.trans P2) hv

noncomputable def nilD (_ : Lo) (H : AH) : Option (List AV × AH) := some ([], H)
noncomputable def consD (f : Lo → AH → Option (AV × AH)) (fs : Lo → AH → Option (List AV × AH)) (lo : Lo) (H : AH) : Option (List AV × AH) :=
  (f lo H).bind fun p => (fs lo p.2).map fun q => (p.1 :: q.1, q.2)
theorem SEs.nil : SEs g c env ns [] nilD := by
  intro pos as lo H s Q E v H' P e k
  cases e
  exact wpAny_pure (k as [] s.heap s.toks (.refl P.hr) .nil)
theorem SEs.cons {e : Expr} {es : List Expr} {f : Lo → AH → Option (AV × AH)} {fs : Lo → AH → Option (List AV × AH)} (h1 : SE g c env ns e f) (h2 : SEs g c env ns es fs)
    (hs : starEach (e :: es) env = (false, eval e env) :: starEach es env := by rfl) : SEs g c env ns (e :: es) (consD f fs) := by
  intro pos as lo H s Q E v H' P e k
  unfold consD at e
  obtain ⟨⟨x, H1⟩, q1, e⟩ := Option.bind_eq_some_iff.mp e
  obtain ⟨⟨xs, H2⟩, q2, e⟩ := Option.map_eq_some_iff.mp e
  cases e
  refine spliced_more (h1 as lo H s _ _ x H1 P q1 fun as1 u ha tk1 P1 v1 => ?_) hs
  exact h2 pos as1 lo H1 _ _ _ xs H2 (P.step P1) q2 fun as2 us hb tk2 P2 v2 => k as2 (u :: us) hb tk2 (P1.trans P2) (.cons (v1.step P1.hr P2.st) v2)
end
noncomputable def asD (x : AV) (H : AH) : Option PyData := match x with
  | .d x => some x
  | .r i => (H[i]?).map .list
  | .t _ => none

section
variable {g : Gx} {c : Cx} {env : Env} {ns : List Str} {pos : Pos} {as : List Addr} {H : AH} {h : Heap}

theorem VR.reads {v : Value} {x : AV} {d : PyData} (hr : HR as H h) (r : VR h as v x) (e : asD x H = some d) : d.canLay0 = true ∧ ∃ bs, Reads h v d bs := by
  cases x with
  | t T => cases e
  | d x => cases e; obtain ⟨hc, bs, q, _⟩ := r; exact ⟨hc, bs, q⟩
  | r i =>
    obtain ⟨a, rfl, ha⟩ := r
    obtain ⟨l, hl, rfl⟩ := Option.map_eq_some_iff.mp e
    obtain ⟨vs, n, bs, e', hc, q, _⟩ := hr.ls i a l ha hl
    exact ⟨by simpa [PyData.canLay0] using hc, a :: bs, .list e' rfl rfl (by simpa using q)⟩

theorem VR.list {v : Value} {x : AV} {l : List PyData} (hr : HR as H h) (r : VR h as v x) (e : asD x H = some (.list l)) :
    ∃ a vs, v = .ref a ∧ h.IsList a (List.toArray vs) ∧ PyData.canLayAll0 l = true ∧ ∃ bs, ReadsAll h vs l bs ∧ ∀ b ∈ bs, b ∉ as := by
  cases x with
  | t T => cases e
  | d x =>
    cases e
    obtain ⟨hc, bs, q, hn⟩ := r
    cases q with
    | list e1 e2 e3 q => exact ⟨_, _, rfl, ⟨_, e1, e2, _, by simpa using e3⟩, by simpa [PyData.canLay0] using hc, _, q, fun b m => hn b (.tail _ m)⟩
  | r i =>
    obtain ⟨a, rfl, ha⟩ := r
    obtain ⟨l', hl, e⟩ := Option.map_eq_some_iff.mp e
    cases e
    obtain ⟨vs, n, bs, e', hc, q, hn⟩ := hr.ls i a l ha hl
    exact ⟨a, vs, rfl, ⟨_, e', rfl, n, rfl⟩, hc, bs, q, hn⟩
theorem VR.tuple {v : Value} {l : List PyData} (r : VR h as v (.d (.tuple l))) :
    ∃ a vs, v = .ref a ∧ IsTup h a (List.toArray vs) ∧ PyData.canLayAll0 l = true ∧ ∃ bs, ReadsAll h vs l bs ∧ ∀ b ∈ bs, b ∉ as := by
  obtain ⟨hc, bs, q, hn⟩ := r
  cases q with
  | tuple e1 e2 e3 q => exact ⟨_, _, rfl, ⟨_, e1, e2, _, by simpa using e3⟩, by simpa [PyData.canLay0] using hc, _, q, hn⟩

theorem readsAll_len {vs : List Value} {l : List PyData} {bs : List Addr} (r : ReadsAll h vs l bs) : vs.length = l.length := by
  induction l generalizing vs bs with
  | nil => cases r; rfl
  | cons x xs ih => cases r with | cons _ r => simp [ih r]
theorem readsAll_get {vs : List Value} {l : List PyData} {bs : List Addr} (r : ReadsAll h vs l bs) (hc : PyData.canLayAll0 l = true) (hn : ∀ b ∈ bs, b ∉ as) {i : Nat} {d : PyData} (e : l[i]? = some d) :
    ∃ u, vs[i]? = some u ∧ VR h as u (.d d) := by
  induction l generalizing vs bs i with
  | nil => cases e
  | cons x xs ih =>
    cases r with
    | cons q r =>
      simp only [PyData.canLayAll0, Bool.and_eq_true] at hc
      cases i with
      | zero => cases e; exact ⟨_, rfl, hc.1, _, q, fun b m => hn b (List.mem_append_left _ m)⟩
      | succ i => exact ih r hc.2 (fun b m => hn b (List.mem_append_right _ m)) e
theorem VRs.readsAll {vs : List Value} {xs : List AV} {l : List PyData} (r : VRs h as vs xs) (e : xs = l.map .d) : PyData.canLayAll0 l = true ∧ ∃ bs, ReadsAll h vs l bs ∧ ∀ b ∈ bs, b ∉ as := by
  induction l generalizing vs xs with
  | nil => cases e; cases r; exact ⟨rfl, [], .nil, fun _ m => (nomatch m)⟩
  | cons x l ih =>
    subst e
    cases r with
    | cons q r =>
      obtain ⟨hc, bs, q, hn⟩ := q
      obtain ⟨hc', bs', q', hn'⟩ := ih r rfl
      exact ⟨by simp [PyData.canLayAll0, hc, hc'], bs ++ bs', .cons q q', fun b m => (List.mem_append.mp m).elim (hn b) (hn' b)⟩
theorem readsAll_vrs {vs : List Value} {l : List PyData} {bs : List Addr} (r : ReadsAll h vs l bs) (hc : PyData.canLayAll0 l = true) (hn : ∀ b ∈ bs, b ∉ as) : VRs h as vs (l.map .d) := by
  induction l generalizing vs bs with
  | nil => cases r; exact .nil
  | cons x l ih =>
    cases r with
    | cons q r =>
      simp only [PyData.canLayAll0, Bool.and_eq_true] at hc
      exact .cons ⟨hc.1, _, q, fun b m => hn b (List.mem_append_left _ m)⟩ (ih r hc.2 fun b m => hn b (List.mem_append_right _ m))

/-- data made as a new untracked object -/
theorem readsAll_push {vs : List Value} {l : List PyData} {bs : List Addr} (o : Obj) (hc : PyData.canLayAll0 l = true) (r : ReadsAll h vs l bs) : ReadsAll (h.push o) vs l bs :=
  readsAll_step (as := []) (fun _ _ e _ _ => Heap.get?_push_of_some _ e) (fun _ _ _ _ m => (nomatch m)) hc r (fun _ _ m => (nomatch m))
theorem VR.newList {vs : List Value} {l : List PyData} {bs : List Addr} {n : Nat} (hr : HR as H h) (hc : PyData.canLayAll0 l = true) (r : ReadsAll h vs l bs) (hn : ∀ b ∈ bs, b ∉ as) :
    VR (h.push (listOf vs.toArray n)) as (.ref h.objs.size) (.d (.list l)) := by
  refine ⟨by simpa [PyData.canLay0] using hc, h.objs.size :: bs, .list (Heap.get?_push_size _ rfl) rfl rfl (by simpa using readsAll_push _ hc r), fun b m => ?_⟩
  rcases List.mem_cons.mp m with rfl | m
  · intro m; obtain ⟨_, _, e⟩ := hr.seq m; rw [size_none] at e; cases e
  · exact hn b m
theorem VR.newTuple {vs : List Value} {l : List PyData} {bs : List Addr} (hc : PyData.canLayAll0 l = true) (r : ReadsAll h vs l bs) (hn : ∀ b ∈ bs, b ∉ as) :
    VR (h.push { cls := .type "tuple", data := .seq vs.toArray }) as (.ref h.objs.size) (.d (.tuple l)) :=
  ⟨by simpa [PyData.canLay0] using hc, bs, .tuple (Heap.get?_push_size _ rfl) rfl rfl (by simpa using readsAll_push _ hc r), hn⟩

noncomputable def datas : List AV → Option (List PyData)
  | [] => some []
  | .d x :: r => (datas r).map (x :: ·)
  | .r _ :: _ => none
  | .t _ :: _ => none
theorem datas_eq : ∀ {xs : List AV} {l : List PyData}, datas xs = some l → xs = l.map .d
  | [], _, e => by cases e; rfl
  | .d x :: r, l, e => by
    obtain ⟨l', e', rfl⟩ := Option.map_eq_some_iff.mp e
    rw [datas_eq e']; rfl
  | .r _ :: _, _, e => by cases e
  | .t _ :: _, _, e => by cases e

/-- displays: a tuple, a list that is not tracked, a list that is -/
noncomputable def tupD (f : Lo → AH → Option (List AV × AH)) (lo : Lo) (H : AH) : Option (AV × AH) := (f lo H).bind fun p => (datas p.1).bind fun l => if l.length ≤ 1000 then some (.d (.tuple l), p.2) else none
noncomputable def lstD (f : Lo → AH → Option (List AV × AH)) (lo : Lo) (H : AH) : Option (AV × AH) := (f lo H).bind fun p => (datas p.1).bind fun l => if l.length ≤ 1000 then some (.d (.list l), p.2) else none
noncomputable def trkD (f : Lo → AH → Option (List AV × AH)) (lo : Lo) (H : AH) : Option (AV × AH) := (f lo H).bind fun p => (datas p.1).bind fun l => if l.length ≤ 1000 then some (.r p.2.length, p.2 ++ [l]) else none
theorem fit1000 {n : Nat} (h : n ≤ 1000) : n ≤ sizeLine := Nat.le_trans h (by rw [sizeLine_eq]; omega)
theorem SE.tuple {es : List Expr} {k : Nat} {f : Lo → AH → Option (List AV × AH)} (h1 : SEs g c env ns es f) : SE g c env ns (.Tuple es k pos) (tupD f) := by
  intro as lo H s Q E v H' P e k
  unfold tupD at e
  obtain ⟨⟨x, H1⟩, e1, e⟩ := Option.bind_eq_some_iff.mp e
  obtain ⟨l, e2, e⟩ := Option.bind_eq_some_iff.mp e
  split at e
  · rename_i hl
    cases e
    refine Tuple_ (h1 pos as lo H s _ _ x H1 P e1 fun as1 vs ha tk1 P1 v1 => ?_)
    obtain ⟨hc, bs, r, hn⟩ := v1.readsAll (datas_eq e2)
    refine wpAny_newTuple (k as1 _ _ _ ⟨P1.st.trans (stp_push _), P1.hr.push _⟩ (VR.newTuple hc r hn)) (by rw [readsAll_len r]; exact fit1000 hl)
  · cases e
theorem SE.list {es : List Expr} {f : Lo → AH → Option (List AV × AH)} (h1 : SEs g c env ns es f) : SE g c env ns (.List es pos) (lstD f) := by
  intro as lo H s Q E v H' P e k
  unfold lstD at e
  obtain ⟨⟨x, H1⟩, e1, e⟩ := Option.bind_eq_some_iff.mp e
  obtain ⟨l, e2, e⟩ := Option.bind_eq_some_iff.mp e
  split at e
  · rename_i hl
    cases e
    refine List_ (h1 pos as lo H s _ _ x H1 P e1 fun as1 vs ha tk1 P1 v1 => ?_)
    obtain ⟨hc, bs, r, hn⟩ := v1.readsAll (datas_eq e2)
    refine wpAny_newList (k as1 _ _ _ ⟨P1.st.trans (stp_push _), P1.hr.push _⟩ (VR.newList (n := 0) P1.hr hc r hn)) (by rw [readsAll_len r]; exact fit1000 hl)
  · cases e
theorem SE.listT {es : List Expr} {f : Lo → AH → Option (List AV × AH)} (h1 : SEs g c env ns es f) : SE g c env ns (.List es pos) (trkD f) := by
  intro as lo H s Q E v H' P e k
  unfold trkD at e
  obtain ⟨⟨x, H1⟩, e1, e⟩ := Option.bind_eq_some_iff.mp e
  obtain ⟨l, e2, e⟩ := Option.bind_eq_some_iff.mp e
  split at e
  · rename_i hl
    cases e
    refine List_ (h1 pos as lo H s _ _ x H1 P e1 fun as1 vs ha tk1 P1 v1 => ?_)
    obtain ⟨hc, bs, r, hn⟩ := v1.readsAll (datas_eq e2)
    refine wpAny_newList (k (as1 ++ [ha.objs.size]) _ _ _ ⟨P1.st.trans (stp_track _), P1.hr.track hc r hn 0⟩ ⟨_, rfl, ?_⟩) (by rw [readsAll_len r]; exact fit1000 hl)
    rw [← P1.hr.len]; simp
  · cases e

/-! operators -/
noncomputable def iop (o : Int → Int → Option Int) (a b : AV) (_ : AH) : Option AV := match a, b with
  | .d (.int a), .d (.int b) => (o a b).map fun z => .d (.int z)
  | _, _ => none
theorem iop_eq {o : Int → Int → Option Int} {a b z : AV} {H : AH} (e : iop o a b H = some z) : ∃ x y r, a = .d (.int x) ∧ b = .d (.int y) ∧ o x y = some r ∧ z = .d (.int r) := by
  unfold iop at e
  split at e
  · obtain ⟨r, e', rfl⟩ := Option.map_eq_some_iff.mp e; exact ⟨_, _, r, rfl, rfl, e', rfl⟩
  · cases e
theorem OpOk.ofInt {t : Value → Value → Sem Value} {o : Int → Int → Option Int}
    (ht : ∀ (A : Around) (s : Shared) (Q E : Value → Shared → Prop) (a b r : Int) (u w : Tok), A.units + 100 < cLine → o a b = some r → (∀ t tk, Q (.int r t) { s with toks := tk }) → wpAny g.M A (t (.int a u) (.int b w)) Q E s) : OpOk g t (iop o) := by
  intro A as H s Q E a b x y z hu hr ha hb e k
  obtain ⟨x', y', r, rfl, rfl, e', rfl⟩ := iop_eq e
  obtain ⟨u, rfl⟩ := ha.unint
  obtain ⟨w, rfl⟩ := hb.unint
  exact ht A s Q E x' y' r u w hu e' fun t tk => k _ s.heap tk (.refl hr) (.int _ _)
theorem op_add : OpOk g (binaryOp .Add) (iop fun a b => some (a + b)) := .ofInt fun A s Q E a b r u w _ e k => by cases e; exact add_int (k _ _)
theorem op_sub : OpOk g (binaryOp .Sub) (iop fun a b => some (a - b)) := .ofInt fun A s Q E a b r u w _ e k => by cases e; exact sub_int (k _ _)
theorem op_mul : OpOk g (binaryOp .Mult) (iop fun a b => if a.natAbs < 2 ^ 30 then some (a * b) else none) := .ofInt fun A s Q E a b r u w _ e k => by
  split at e
  · rename_i h
    cases e
    exact mul_int (k _ _) (IntMulOk.of_left (intBits_le_64 (by omega) (by omega)))
  · cases e
theorem op_fdiv : OpOk g (binaryOp .FloorDiv) (iop fun a b => if b ≠ 0 ∧ b.natAbs < 1073741824 then some (Int.fdiv a b) else none) := .ofInt fun A s Q E a b r u w _ e k => by
  split at e
  · rename_i h
    cases e
    exact floordiv_int h.1 (k _ _) (.inl (PyProof.noPylong_small h.2))
  · cases e
theorem op_mod : OpOk g (binaryOp .Mod) (iop fun a b => if b ≠ 0 then some (Int.fmod a b) else none) := .ofInt fun A s Q E a b r u w _ e k => by
  split at e
  · rename_i h; cases e; exact mod_int' h (k _ _)
  · cases e
theorem op_shr : OpOk g (binaryOp .RShift) (iop fun a b => if 0 ≤ b then some (Int.fdiv a (2 ^ b.toNat)) else none) := .ofInt fun A s Q E a b r u w _ e k => by
  split at e
  · rename_i h; cases e; exact rshift_int h (k _ _)
  · cases e

noncomputable def icmp (o : Int → Int → Bool) (a b : AV) (_ : AH) : Option Bool := match a, b with
  | .d (.int a), .d (.int b) => some (o a b)
  | _, _ => none
theorem OpOk.ofCmp {t : Value → Value → Sem Value} {o : Int → Int → Bool}
    (ht : ∀ (A : Around) (s : Shared) (Q E : Value → Shared → Prop) (a b : Int) (u w : Tok), Q (.bool (o a b)) s → wpAny g.M A (t (.int a u) (.int b w)) Q E s) : OpOk g t (boolAV (icmp o)) := by
  intro A as H s Q E a b x y z hu hr ha hb e k
  obtain ⟨r, e', rfl⟩ := Option.map_eq_some_iff.mp e
  clear e
  have e := e'
  unfold icmp at e
  split at e
  · cases e
    obtain ⟨u, rfl⟩ := ha.unint
    obtain ⟨w, rfl⟩ := hb.unint
    exact ht A s Q E _ _ u w (k _ s.heap s.toks (.refl hr) (.bool _))
  · cases e
theorem op_lt : OpOk g (compareOp .Lt) (boolAV (icmp fun a b => decide (a < b))) := .ofCmp fun A s Q E a b u w h => lt_int h
theorem op_gt : OpOk g (compareOp .Gt) (boolAV (icmp fun a b => decide (b < a))) := .ofCmp fun A s Q E a b u w h => gt_int h
theorem op_le : OpOk g (compareOp .LtE) (boolAV (icmp fun a b => decide (a ≤ b))) := .ofCmp fun A s Q E a b u w h => le_int h
theorem op_ge : OpOk g (compareOp .GtE) (boolAV (icmp fun a b => decide (b ≤ a))) := .ofCmp fun A s Q E a b u w h => ge_int h

noncomputable def eqO (neg : Bool) (a b : AV) (H : AH) : Option Bool := (asD a H).bind fun x => (asD b H).bind fun y => if x.depth ≤ 50 then some (PyData.eqv x y != neg) else none
theorem op_eq : OpOk g (compareOp .Eq) (boolAV (eqO false)) := by
  intro A as H s Q E a b x y z hu hr ha hb e k
  obtain ⟨r, e', rfl⟩ := Option.map_eq_some_iff.mp e
  clear e
  have e := e'
  unfold eqO at e
  obtain ⟨p, e1, e⟩ := Option.bind_eq_some_iff.mp e
  obtain ⟨q, e2, e⟩ := Option.bind_eq_some_iff.mp e
  split at e
  · rename_i hd
    cases e
    obtain ⟨hc, bs, r1⟩ := ha.reads hr e1
    obtain ⟨hc', bs', r2⟩ := hb.reads hr e2
    refine SeqAt.compareEq_reads r1 r2 hc hc' (by have := Nat.min_le_left p.depth q.depth; omega) ?_
    have := k (.bool (PyData.eqv p q)) s.heap s.toks (.refl hr)
    simp only [Bool.bne_false] at this
    exact this (.bool _)
  · cases e
theorem op_ne : OpOk g (compareOp .NotEq) (boolAV (eqO true)) := by
  intro A as H s Q E a b x y z hu hr ha hb e k
  obtain ⟨r, e', rfl⟩ := Option.map_eq_some_iff.mp e
  clear e
  have e := e'
  unfold eqO at e
  obtain ⟨p, e1, e⟩ := Option.bind_eq_some_iff.mp e
  obtain ⟨q, e2, e⟩ := Option.bind_eq_some_iff.mp e
  split at e
  · rename_i hd
    cases e
    obtain ⟨hc, bs, r1⟩ := ha.reads hr e1
    obtain ⟨hc', bs', r2⟩ := hb.reads hr e2
    refine SeqAt.compareNe_reads r1 r2 hc hc' (by have := Nat.min_le_left p.depth q.depth; omega) ?_
    have := k (.bool (!PyData.eqv p q)) s.heap s.toks (.refl hr)
    simp only [Bool.bne_true] at this
    exact this (.bool _)
  · cases e
noncomputable def inO (a b : AV) (H : AH) : Option Bool := (asD a H).bind fun x => (asD b H).bind fun y => match y with
  | .list l => if x.depth ≤ 50 then some (l.any fun z => PyData.eqv z x) else none
  | _ => none
theorem op_in : OpOk g (compareOp .In) (boolAV inO) := by
  intro A as H s Q E a b x y z hu hr ha hb e k
  obtain ⟨r, e', rfl⟩ := Option.map_eq_some_iff.mp e
  clear e
  have e := e'
  unfold inO at e
  obtain ⟨p, e1, e⟩ := Option.bind_eq_some_iff.mp e
  obtain ⟨q, e2, e⟩ := Option.bind_eq_some_iff.mp e
  split at e
  · rename_i l
    split at e
    · rename_i hd
      cases e
      obtain ⟨hc, bs, r1⟩ := ha.reads hr e1
      obtain ⟨hc', bs', r2⟩ := hb.reads hr e2
      exact SeqAt.in_list_reads r2 r1 (by simpa [PyData.canLay0] using hc') hc (by have := Nat.min_le_right (PyData.depthAll l) p.depth; omega) (k _ s.heap s.toks (.refl hr) (.bool _))
    · cases e
  · cases e

noncomputable def strs2 (o : Str → Str → Option Str) (a b : AV) (_ : AH) : Option AV := match a, b with
  | .d (.str a), .d (.str b) => (o a b).map fun z => .d (.str z)
  | _, _ => none
theorem strOk_append {x y : Str} (hx : PyData.strOk x = true) (hy : PyData.strOk y = true) : PyData.strOk (x ++ y) = true := by
  unfold PyData.strOk at *
  rw [show (x ++ y).cps = x.cps ++ y.cps from rfl, Array.all_append, hx, hy]; rfl
theorem op_cat : OpOk g (binaryOp .Add) (strs2 fun a b => if a.length + b.length ≤ 100000 then some (a ++ b) else none) := by
  intro A as H s Q E a b x y z hu hr ha hb e k
  unfold strs2 at e
  split at e
  · obtain ⟨r, e', rfl⟩ := Option.map_eq_some_iff.mp e
    clear e
    dsimp only at e'
    split at e'
    · rename_i hl
      cases e'
      obtain ⟨o1, t, rfl⟩ := ha.unstr
      obtain ⟨o2, u, rfl⟩ := hb.unstr
      exact SBL.add (fun t' tk _ => k _ s.heap tk (.refl hr) (.str _ _ (strOk_append o1 o2))) (by rw [sizeLine_eq]; omega)
    · cases e'
  · cases e

noncomputable def lcat (a b : AV) (H : AH) : Option AV := (asD a H).bind fun x => (asD b H).bind fun y => match x, y with
  | .list l, .list m => if l.length + m.length ≤ 1000 then some (.d (.list (l ++ m))) else none
  | _, _ => none
theorem readsAll_append {vs ws : List Value} {l m : List PyData} {bs cs : List Addr} (r : ReadsAll h vs l bs) (q : ReadsAll h ws m cs) : ReadsAll h (vs ++ ws) (l ++ m) (bs ++ cs) := by
  induction l generalizing vs bs with
  | nil => cases r; exact q
  | cons x l ih => cases r with | cons a r => simpa [List.append_assoc] using ReadsAll.cons a (ih r)
theorem canLayAll_append {l m : List PyData} (hl : PyData.canLayAll0 l = true) (hm : PyData.canLayAll0 m = true) : PyData.canLayAll0 (l ++ m) = true := by
  induction l with
  | nil => exact hm
  | cons x l ih => simp only [PyData.canLayAll0, List.cons_append, Bool.and_eq_true] at hl ⊢; exact ⟨hl.1, ih hl.2⟩

/-- the truth of a value -/
noncomputable def trO (x : AV) (H : AH) : Option Bool := (asD x H).bind fun d => match d with
  | .none => some false
  | .bool b => some b
  | .int i => some (i != 0)
  | .str s => if s.length ≤ 100000 then some ((s.length : Int) != 0) else none
  | .list l => if l.length ≤ 100000 then some (!l.isEmpty) else none
  | .tuple l => if l.length ≤ 100000 then some (!l.isEmpty) else none
  | .dict _ => none
theorem isEmpty_len {vs : List Value} {l : List PyData} {bs : List Addr} (r : ReadsAll h vs l bs) : (List.toArray vs).isEmpty = l.isEmpty := by
  cases l with
  | nil => cases r; rfl
  | cons x l => cases r with | cons _ _ => rfl
theorem tr_ok : TrOk g trO := by
  intro A as H s Q E a x b hu hr ha e k
  unfold trO at e
  obtain ⟨p, e1, e⟩ := Option.bind_eq_some_iff.mp e
  obtain ⟨hc, bs, r1⟩ := ha.reads hr e1
  cases p with
  | none => cases e; cases r1; exact truthy_none (k s.toks)
  | bool c => cases e; cases r1; exact wpAny_truthy_bool (k s.toks)
  | int i => cases e; cases r1; exact PyProof.Rows.truthy_int (k s.toks)
  | str y =>
    simp only at e
    split at e
    · cases e; cases r1; exact P.truthy_str (by omega) (k _)
    · cases e
  | list l =>
    simp only at e
    split at e
    · rename_i hl
      cases e
      obtain ⟨a', vs, rfl, hL, _, bs', q, _⟩ := ha.list hr e1
      refine wpAny_truthy_list hL (by have := readsAll_len q; simp; omega) ?_
      rw [isEmpty_len q]; exact k _
    · cases e
  | tuple l =>
    simp only at e
    split at e
    · rename_i hl
      cases e
      cases r1 with
      | tuple e1' e2 e3 q =>
        refine truthy_tuple ⟨_, e1', e2, _, e3⟩ (by have := readsAll_len q; simp at this; omega) ?_
        have := isEmpty_len q
        simp only [Array.toArray_toList] at this
        rw [this]; exact k _
    · cases e
  | dict _ => cases e
end
structure EnvOk (env : Env) : Prop where
  gl : env.globals = mainGlobals
  bu : env.builtins = builtinsNs
  fk : env.scope.kind = .function
/-- x is a name of the top's -/
noncomputable def GK (g : Gx) (x : Str) (v : Value) : Prop := g.mg x = some v
/-- x is a built-in name -/
noncomputable def GB (g : Gx) (x : Str) (v : Value) : Prop := g.mg x = none ∧ bootBuiltins x = some v ∧ x ≠ "__name__"

section
variable {g : Gx} {c : Cx} {env : Env} {ns : List Str} {pos : Pos} {as as' : List Addr} {H H' : AH} {h h' : Heap}

theorem Ok.glob (k : Ok g c as h) : h.Ns mainGlobals g.mg := by obtain ⟨m, F⟩ := k.F; exact k.T.g.keeps F.keep
theorem Ok.bltn (k : Ok g c as h) : h.Ns builtinsNs g.mb := by obtain ⟨m, F⟩ := k.F; exact k.T.b.keeps F.keep
theorem eval_GK {x : Str} {v : Value} {s : Shared} {Q E : Value → Shared → Prop} {A : Around} (k : Ok g c as s.heap) (he : EnvOk env) (hx : GK g x v) (hq : Q v s)
    (hk : env.kindOf x = some .globalImplicit) (hd : (x == ("__debug__" : Str)) = false) : wpAny g.M A (eval (.Name x pos) env) Q E s :=
  Name_function_global he.fk hk (loadGlobal_global (by rw [he.gl]; exact k.glob) hx hq) hd
theorem eval_GB {x : Str} {v : Value} {s : Shared} {Q E : Value → Shared → Prop} {A : Around} (k : Ok g c as s.heap) (he : EnvOk env) (hx : GB g x v) (hq : Q v s)
    (hk : env.kindOf x = some .globalImplicit) (hd : (x == ("__debug__" : Str)) = false) : wpAny g.M A (eval (.Name x pos) env) Q E s :=
  Name_function_global he.fk hk (loadGlobal_builtin (by rw [he.gl]; exact k.glob) hx.1 (by rw [he.bu]; exact k.bltn) ((k.T.builtins x hx.2.2).trans hx.2.1) hq) hd

/-! items -/
noncomputable def itO (a b : AV) (H : AH) : Option AV := match asD a H, b with
  | some (.list l), .d (.int k) => if l.length ≤ 100000 then (seqIndex? k l.length).bind fun j => (l[j]?).map .d else none
  | some (.tuple l), .d (.int k) => if l.length ≤ 100000 then (seqIndex? k l.length).bind fun j => (l[j]?).map .d else none
  | some (.str x), .d (.int k) => if x.length ≤ 100000 ∧ -(x.length : Int) ≤ k ∧ k < x.length then some (.d (.str (Txt.item x k))) else none
  | _, _ => none
theorem seqIndex_bound {k : Int} {n j : Nat} (e : seqIndex? k n = some j) : -(n : Int) ≤ k ∧ k < n ∧ j = (if k < 0 then k + n else k).toNat := by
  unfold seqIndex? at e
  by_cases h0 : k < 0
  · simp only [if_pos h0, Bool.and_eq_true, decide_eq_true_eq] at e ⊢
    by_cases h1 : 0 ≤ k + n ∧ k + n < n
    · rw [if_pos h1] at e; cases e; exact ⟨by omega, by omega, rfl⟩
    · rw [if_neg h1] at e; cases e
  · simp only [if_neg h0, Bool.and_eq_true, decide_eq_true_eq] at e ⊢
    by_cases h1 : 0 ≤ k ∧ k < n
    · rw [if_pos h1] at e; cases e; exact ⟨by omega, by omega, rfl⟩
    · rw [if_neg h1] at e; cases e
theorem strOk_one {n : Nat} : PyData.strOk ⟨#[n]⟩ = decide (n < 0x110000) := by
  unfold PyData.strOk
  simp
theorem strOk_item {x : Str} (hx : PyData.strOk x = true) (k : Int) : PyData.strOk (Txt.item x k) = true := by
  unfold Txt.item
  rw [strOk_one]
  unfold Txt.charAt
  cases e : seqIndex? k x.length with
  | none => rfl
  | some j =>
    show decide ((x.cps[j]?).getD 0 < _) = true
    cases e' : x.cps[j]? with
    | none => rfl
    | some n =>
      have hm : n ∈ x.cps := Array.mem_of_getElem? e'
      unfold PyData.strOk at hx
      exact Array.all_eq_true'.mp hx n hm
theorem op_item {value slice : Expr} (hs : ∀ o i, subscripted slice false o i = operate [o, i] (getItem o i)) (ht : ∀ x t r, letTemporaryGo value (.str x t) r = pure ()) : OpOk g (subscriptTail value slice) itO := by
  intro A as H s Q E a b x y z hu hr ha hb e k
  unfold itO at e
  split at e
  · rename_i l i hx
    split at e
    · rename_i hl
      obtain ⟨j, ej, e⟩ := Option.bind_eq_some_iff.mp e
      obtain ⟨d, ed, rfl⟩ := Option.map_eq_some_iff.mp e
      obtain ⟨a', vs, rfl, hL, hc, bs, q, hn⟩ := ha.list hr hx
      obtain ⟨t, rfl⟩ := hb.unint
      obtain ⟨u, hu', hv⟩ := readsAll_get q hc hn ed
      have hlen := readsAll_len q
      obtain ⟨b1, b2, b3⟩ := seqIndex_bound ej
      refine tail_any hL.typeIs slot_list_getitem.lookup ?_ (hs _ _)
      by_cases h0 : i < 0
      · rw [if_pos h0] at b3
        exact wpAny_getItem_list_neg hL h0 (by simp; omega) (by omega) (by simp [hlen, ← b3, hu']) (k _ s.heap s.toks (.refl hr) hv)
      · rw [if_neg h0] at b3
        exact wpAny_getItem_list hL (by omega) (by omega) (by simp [← b3, hu']) (k _ s.heap s.toks (.refl hr) hv)
    · cases e
  · rename_i l i hx
    split at e
    · rename_i hl
      obtain ⟨j, ej, e⟩ := Option.bind_eq_some_iff.mp e
      obtain ⟨d, ed, rfl⟩ := Option.map_eq_some_iff.mp e
      cases x with
      | t T => cases hx
      | r n => obtain ⟨_, _, hx⟩ := Option.map_eq_some_iff.mp hx; cases hx
      | d x =>
        cases hx
        obtain ⟨a', vs, rfl, hL, hc, bs, q, hn⟩ := ha.tuple
        obtain ⟨t, rfl⟩ := hb.unint
        obtain ⟨u, hu', hv⟩ := readsAll_get q hc hn ed
        have hlen := readsAll_len q
        obtain ⟨b1, b2, b3⟩ := seqIndex_bound ej
        exact item_tupleT hL (by omega) (by omega) (by rw [hlen]; exact ej) hu' (k _ s.heap s.toks (.refl hr) hv) (hs _ _)
    · cases e
  · rename_i y' i hx
    split at e
    · rename_i hl
      cases e
      cases x with
      | t T => cases hx
      | r n => obtain ⟨_, _, hx⟩ := Option.map_eq_some_iff.mp hx; cases hx
      | d x =>
        cases hx
        obtain ⟨o1, t, rfl⟩ := ha.unstr
        obtain ⟨t', rfl⟩ := hb.unint
        exact item_str (by unfold fitsSsize; simp; omega) hl.2.1 hl.2.2 (fun _ => k _ s.heap _ (.refl hr) (.str _ _ (strOk_item o1 _))) (hs _ _) (ht _ _)
    · cases e
  · cases e
theorem SE.item {value slice : Expr} {f1 f2 : Lo → AH → Option (AV × AH)} (h1 : SE g c env ns value f1) (h2 : SE g c env ns slice f2) (hs : ∀ o i, subscripted slice false o i = operate [o, i] (getItem o i) := by intro _ _; rfl)
    (ht : ∀ x t r, letTemporaryGo value (.str x t) r = pure () := by intro _ _ _; rfl) : SE g c env ns (.Subscript value slice pos) (opD itO f1 f2) := by
  intro as lo H s Q E v H' P e k
  unfold opD at e
  obtain ⟨⟨x, H1⟩, e1, e⟩ := Option.bind_eq_some_iff.mp e
  obtain ⟨⟨y, H2⟩, e2, e⟩ := Option.bind_eq_some_iff.mp e
  obtain ⟨z, e3, e⟩ := Option.map_eq_some_iff.mp e
  cases e
  refine Subscript_ (h1 as lo H s _ _ x H1 P e1 fun as1 a ha tk1 P1 v1 => ?_)
  refine h2 as1 lo H1 _ _ _ y H2 (P.step P1) e2 fun as2 b hb tk2 P2 v2 => ?_
  exact op_item hs ht c.A as2 H2 _ _ _ a b x y v ((P.step P1).step P2).ok.un P2.hr (v1.step P1.hr P2.st) v2 e3 fun u h' tk P3 v3 => k as2 u h' tk ((P1.trans P2).trans P3) v3

/-! slices: the bounds are written or told by an expression of an int -/
noncomputable def partD (f : Option (Lo → AH → Option (AV × AH))) (lo : Lo) (H : AH) : Option (Option Int × AH) := match f with
  | none => some (none, H)
  | some f => (f lo H).bind fun p => match p.1 with | .d (.int i) => some (some i, p.2) | _ => none
noncomputable def SP (g : Gx) (c : Cx) (env : Env) (ns : List Str) (e : Option Expr) (f : Option (Lo → AH → Option (AV × AH))) : Prop := match e, f with
  | none, none => True
  | some e, some f => SE g c env ns e f
  | _, _ => False
theorem SP.use {e : Option Expr} {f : Option (Lo → AH → Option (AV × AH))} (hp : SP g c env ns e f) {lo : Lo} {s : Shared} {Q E : Value → Shared → Prop} {i : Option Int} (P : Pre g c env ns as lo H s.heap) (q : partD f lo H = some (i, H'))
    (k : ∀ as' v h' tk, Post as s.heap as' H' h' → IsPart v i → Q v { s with heap := h', toks := tk }) : wpAny g.M c.A (evalPart e env) Q E s := by
  match e, f, hp, q with
  | none, none, _, q => cases q; exact evalPart_none_step (k as .none s.heap s.toks (.refl P.hr) .none)
  | some e, some f, hp, q =>
    obtain ⟨⟨x, H1⟩, e1, q⟩ := Option.bind_eq_some_iff.mp q
    refine evalPart_some_step (hp as lo H s _ _ x H1 P e1 fun as1 a ha tk1 P1 v1 => ?_)
    simp only at q
    split at q
    · cases q
      obtain ⟨t, rfl⟩ := v1.unint
      exact k as1 _ ha tk1 P1 (.int _ _)
    · cases q
noncomputable def loN (lo : Option Int) (n : Nat) : Nat := (sliceBounds lo none none n).1.toNat
noncomputable def hiN (hi : Option Int) (n : Nat) : Nat := (sliceBounds none hi none n).2.1.toNat
theorem bounds_own (lo hi : Option Int) (n : Nat) : sliceBounds lo hi none n = (((loN lo n : Nat) : Int), ((hiN hi n : Nat) : Int), (1 : Int)) := by
  have e1 : ((sliceBounds lo none none n).1.toNat : Int) = (sliceBounds lo none none n).1 := by
    cases lo <;> simp [sliceBounds] <;> omega
  have e2 : ((sliceBounds none hi none n).2.1.toNat : Int) = (sliceBounds none hi none n).2.1 := by
    cases hi <;> simp [sliceBounds] <;> omega
  unfold loN hiN
  rw [e1, e2]
  rfl
theorem pick_own (items : Array Value) (lo hi : Option Int) : slicePick items lo hi none = ((items.toList.drop (loN lo items.size)).take (hiN hi items.size - loN lo items.size)).toArray := by
  unfold slicePick
  rw [bounds_own]
  simp only [sliceRange_one, pick_run]
noncomputable def pickD (l : List PyData) (lo hi : Option Int) : List PyData := (l.drop (loN lo l.length)).take (hiN hi l.length - loN lo l.length)
noncomputable def slO (a : AV) (i j : Option Int) (H : AH) : Option AV := match asD a H with
  | some (.list l) => if l.length ≤ 100000 then some (.d (.list (pickD l i j))) else none
  | some (.str x) => if x.length ≤ 100000 ∧ PyData.strOk (Txt.slice x i j) = true then some (.d (.str (Txt.slice x i j))) else none
  | _ => none
noncomputable def slD (f : Lo → AH → Option (AV × AH)) (fi fj : Option (Lo → AH → Option (AV × AH))) (lo : Lo) (H : AH) : Option (AV × AH) :=
  (f lo H).bind fun p => (partD fi lo p.2).bind fun q => (partD fj lo q.2).bind fun r => (slO p.1 q.1 r.1 r.2).map fun z => (z, r.2)
theorem readsAll_take {vs : List Value} {l : List PyData} {bs : List Addr} (r : ReadsAll h vs l bs) (k : Nat) : ∃ cs, ReadsAll h (vs.take k) (l.take k) cs ∧ ∀ b ∈ cs, b ∈ bs := by
  induction l generalizing vs bs k with
  | nil => cases r; exact ⟨[], by simpa using .nil, fun _ m => (nomatch m)⟩
  | cons x l ih =>
    cases r with
    | cons a r =>
      cases k with
      | zero => exact ⟨[], .nil, fun _ m => (nomatch m)⟩
      | succ k =>
        obtain ⟨cs, q, hm⟩ := ih r k
        exact ⟨_, .cons a q, fun b m => (List.mem_append.mp m).elim (List.mem_append_left _) fun m => List.mem_append_right _ (hm b m)⟩
theorem readsAll_drop {vs : List Value} {l : List PyData} {bs : List Addr} (r : ReadsAll h vs l bs) (k : Nat) : ∃ cs, ReadsAll h (vs.drop k) (l.drop k) cs ∧ ∀ b ∈ cs, b ∈ bs := by
  induction l generalizing vs bs k with
  | nil => cases r; exact ⟨[], by simpa using .nil, fun _ m => (nomatch m)⟩
  | cons x l ih =>
    cases r with
    | cons a r =>
      cases k with
      | zero => exact ⟨_, .cons a r, fun _ m => m⟩
      | succ k =>
        obtain ⟨cs, q, hm⟩ := ih r k
        exact ⟨cs, q, fun b m => List.mem_append_right _ (hm b m)⟩
theorem canLayAll_mem {l : List PyData} : PyData.canLayAll0 l = true ↔ ∀ x ∈ l, x.canLay0 = true := by
  induction l with
  | nil => simp [PyData.canLayAll0]
  | cons x l ih => simp [PyData.canLayAll0, ih]
theorem canLayAll_sub {l m : List PyData} (h : PyData.canLayAll0 l = true) (hs : ∀ x ∈ m, x ∈ l) : PyData.canLayAll0 m = true := canLayAll_mem.mpr fun x hx => canLayAll_mem.mp h x (hs x hx)
theorem keptH_post (hr : HR as H h) : KeptH (Post as h as H) := fun h' ob q => ⟨q.st.trans (stp_push _), q.hr.push _⟩
theorem SE.slice {value : Expr} {el eh : Option Expr} {p2 : Pos} {f : Lo → AH → Option (AV × AH)} {fi fj : Option (Lo → AH → Option (AV × AH))} (h1 : SE g c env ns value f) (h2 : SP g c env ns el fi) (h3 : SP g c env ns eh fj)
    (ht : ∀ x t r, letTemporaryGo value (.str x t) r = pure () := by intro _ _ _; rfl) : SE g c env ns (.Subscript value (.Slice el eh none p2) pos) (slD f fi fj) := by
  intro as lo H s Q E v H' P e k
  unfold slD at e
  obtain ⟨⟨x, H1⟩, e1, e⟩ := Option.bind_eq_some_iff.mp e
  obtain ⟨⟨i, H2⟩, e2, e⟩ := Option.bind_eq_some_iff.mp e
  obtain ⟨⟨j, H3⟩, e3, e⟩ := Option.bind_eq_some_iff.mp e
  obtain ⟨z, e4, e⟩ := Option.map_eq_some_iff.mp e
  cases e
  refine Subscript_ (h1 as lo H s _ _ x H1 P e1 fun as1 a ha tk1 P1 v1 => wpAny_Slice ?_)
  refine h2.use (P.step P1) e2 fun as2 vl hb tk2 P2 pl => ?_
  refine h3.use ((P.step P1).step P2) e3 fun as3 vu hc tk3 P3 pu => evalPart_none_step ?_
  have P4 := (P1.trans P2).trans P3
  have v4 := (v1.step P1.hr P2.st).step P2.hr P3.st
  have hr := P3.hr
  unfold slO at e4
  dsimp only at e4 ⊢
  split at e4
  · rename_i l hx
    split at e4
    · rename_i hl
      cases e4
      obtain ⟨a', vs, rfl, hL, hcl, bs, q, hn⟩ := v4.list hr hx
      have hlen := readsAll_len q
      refine tail_any (ops := [.ref hc.objs.size, .ref a']) (Heap.IsList.typeIs (s := { s with heap := hc.push { cls := .type "slice", data := .fields #[vl, vu, .none] }, toks := tk3 }) (hL.push _)) slot_list_getitem.lookup ?_ rfl
      refine wpAny_getItem_list_slice (hL.push _) (Heap.IsSliceOf.new ..) pl pu .none (by simp) ?_ (by simp; rw [sizeLine_eq]; omega)
      rw [pick_own, show vs.toArray.size = l.length by rw [List.size_toArray, hlen]]
      obtain ⟨cs, q1, m1⟩ := readsAll_drop q (loN i l.length)
      obtain ⟨ds, q2, m2⟩ := readsAll_take q1 (hiN j l.length - loN i l.length)
      have hcl' : PyData.canLayAll0 (pickD l i j) = true := canLayAll_sub hcl fun x hx => List.mem_of_mem_drop (List.mem_of_mem_take hx)
      have hr' := hr.push { cls := .type "slice", data := .fields #[vl, vu, .none] }
      exact k as3 _ _ _ ⟨(P4.st.trans (stp_push _)).trans (stp_push _), hr'.push _⟩ (VR.newList (n := 0) hr' hcl' (readsAll_push _ hcl' q2) fun b m => hn b (m1 b (m2 b m)))
    · cases e4
  · rename_i y hx
    split at e4
    · rename_i hl
      cases e4
      cases x with
      | t T => cases hx
      | r n => obtain ⟨_, _, hx⟩ := Option.map_eq_some_iff.mp hx; cases hx
      | d x =>
        cases hx
        obtain ⟨o1, t, rfl⟩ := v4.unstr
        have hz : y.length ≤ sizeLine := by rw [sizeLine_eq]; omega
        have fin : ∀ h' t' k', Post as3 hc as3 H3 h' → Q (.str (Txt.slice y i j) t') { s with heap := h', toks := k' } := fun h' t' k' q => k as3 _ h' k' (P4.trans q) (.str _ _ hl.2)
        cases pl with
        | none => cases pu with
          | none => exact tail_of_ItemOn (s := { s with heap := hc.push _, toks := tk3 }) (ops := [.ref hc.objs.size, .str y t]) (SBH.sliceItem_nn (s := { s with heap := hc, toks := tk3 }) (keptH_post hr) (.refl hr) fin hz) rfl (ht _ _)
          | int b tb => exact tail_of_ItemOn (s := { s with heap := hc.push _, toks := tk3 }) (ops := [.ref hc.objs.size, .str y t]) (SBH.sliceItem_ns (s := { s with heap := hc, toks := tk3 }) (keptH_post hr) (.refl hr) fin hz) rfl (ht _ _)
        | int a ta => cases pu with
          | none => exact tail_of_ItemOn (s := { s with heap := hc.push _, toks := tk3 }) (ops := [.ref hc.objs.size, .str y t]) (SBH.sliceItem_sn (s := { s with heap := hc, toks := tk3 }) (keptH_post hr) (.refl hr) fin hz) rfl (ht _ _)
          | int b tb => exact tail_of_ItemOn (s := { s with heap := hc.push _, toks := tk3 }) (ops := [.ref hc.objs.size, .str y t]) (SBH.sliceItem_ss (s := { s with heap := hc, toks := tk3 }) (keptH_post hr) (.refl hr) fin hz) rfl (ht _ _)
    · cases e4
  · cases e4
end
section
variable {g : Gx} {c : Cx} {env : Env} {ns : List Str} {pos : Pos} {as as' : List Addr} {H H' : AH} {h h' : Heap}

theorem op_lcat : OpOk g (binaryOp .Add) lcat := by
  intro A as H s Q E a b x y z hu hr ha hb e k
  unfold lcat at e
  obtain ⟨p, e1, e⟩ := Option.bind_eq_some_iff.mp e
  obtain ⟨q, e2, e⟩ := Option.bind_eq_some_iff.mp e
  split at e
  · rename_i l m
    split at e
    · rename_i hz
      cases e
      obtain ⟨a', vs, rfl, hL, hc, bs, r1, hn1⟩ := ha.list hr e1
      obtain ⟨b', ws, rfl, hM, hd, cs, r2, hn2⟩ := hb.list hr e2
      have l1 := readsAll_len r1
      have l2 := readsAll_len r2
      obtain ⟨⟨cls, dd, data, sl⟩, ho, hc1, n, hd1⟩ := id hL
      obtain ⟨⟨cls2, dd2, data2, sl2⟩, ho2, hc2, n2, hd2⟩ := id hM
      simp only at hc1 hd1 hc2 hd2
      subst hc1 hd1 hc2 hd2
      have e : vs.toArray ++ ws.toArray = (vs ++ ws).toArray := by simp
      refine concat_meets ⟨_, ho, rfl⟩ ⟨_, ho2, rfl⟩ noFill_list_add seq_list_add PySem.F.slot_list_add PySem.F.entry_list_add (PySem.F.args_list_add_2 _ _) (list_addW a' b' vs.toArray ws.toArray n n2 dd dd2 sl sl2 (by simp; rw [sizeLine_eq]; omega)) ⟨ho, ho2, ?_⟩
      rw [e]
      exact k _ _ _ ⟨stp_push _, hr.push _⟩ (VR.newList (n := 0) hr (canLayAll_append hc hd) (readsAll_append r1 r2) fun b m => (List.mem_append.mp m).elim (hn1 b) (hn2 b))
    · cases e
  · cases e

/-- what a built-in does -/
noncomputable def BOk (g : Gx) (id : String) (o : List AV → AH → Option (AV × AH)) : Prop :=
  ∀ (A : Around) (as : List Addr) (H : AH) (s : Shared) (Q E : Value → Shared → Prop) (vs : List Value) (xs : List AV) (z : AV) (H' : AH), A.units + 100 < cLine → HR as H s.heap → VRs s.heap as vs xs → o xs H = some (z, H') →
    (∀ as' v h' tk, Post as s.heap as' H' h' → VR h' as' v z → Q v { s with heap := h', toks := tk }) → wpAny g.M A (call (.builtin id) vs) Q E s

noncomputable def callD (o : List AV → AH → Option (AV × AH)) (fs : Lo → AH → Option (List AV × AH)) (lo : Lo) (H : AH) : Option (AV × AH) := (fs lo H).bind fun p => o p.1 p.2
theorem SE.builtin {x : Str} {id : String} {e : Expr} {es : List Expr} {p2 : Pos} {o : List AV → AH → Option (AV × AH)} {fs : Lo → AH → Option (List AV × AH)} (hb : BOk g id o) (hx : GB g x (.builtin id)) (he : EnvOk env) (hs : SEs g c env ns (e :: es) fs)
    (hk : env.kindOf x = some .globalImplicit := by rfl) (hd : (x == ("__debug__" : Str)) = false := by decide) (h1 : starEach (e :: es) env = (false, eval e env) :: starEach es env := by rfl)
    (h2 : ((backTo pos (starEach es env)).any fun x => x.1) = false := by rfl)
    (h3 : eval (.Call (.Name x p2) (e :: es) [] pos) env = (do callWith pos (← eval (.Name x p2) env) [] (backTo pos (starEach (e :: es) env)) (backToKw pos (keywordEach [] env))) := by rfl) :
    SE g c env ns (.Call (.Name x p2) (e :: es) [] pos) (callD o fs) := by
  intro as lo H s Q E v H' P q k
  unfold callD at q
  obtain ⟨⟨xs, H1⟩, e1, q⟩ := Option.bind_eq_some_iff.mp q
  refine Call_ (eval_GB P.ok he hx (PyProof.Rows.callWith_builtin1 (hs pos as lo H s _ _ xs H1 P e1 fun as1 vs ha tk1 P1 v1 => ?_) h1 h2) hk hd) h3
  exact hb c.A as1 H1 _ _ _ vs xs v H' (P.step P1).ok.un P1.hr v1 q fun as2 u hb tk2 P2 v2 => k as2 u hb tk2 (P1.trans P2) v2

/-- a method of a str or a list: its name leads to a built-in -/
noncomputable def GMOk (g : Gx) (name : Str) (id : String) (o : List AV → AH → Option (AV × AH)) : Prop :=
  ∀ (A : Around) (as : List Addr) (H : AH) (s : Shared) (Q : Value × List Value → Shared → Prop) (E : Value → Shared → Prop) (pl : Sem Bool) (v : Value) (x : AV), HR as H s.heap → VR s.heap as v x → (∃ xs H' z, o (x :: xs) H' = some z) →
    Q (.builtin id, [v]) s → wpAny g.M A (getMethod v name pl) Q E s
noncomputable def methD (o : List AV → AH → Option (AV × AH)) (f : Lo → AH → Option (AV × AH)) (fs : Lo → AH → Option (List AV × AH)) (lo : Lo) (H : AH) : Option (AV × AH) := (f lo H).bind fun p => (fs lo p.2).bind fun q => o (p.1 :: q.1) q.2
theorem SE.method {name : Str} {id : String} {ob e : Expr} {es : List Expr} {p2 : Pos} {pl : Sem Bool} {o : List AV → AH → Option (AV × AH)} {f : Lo → AH → Option (AV × AH)} {fs : Lo → AH → Option (List AV × AH)} (hm : GMOk g name id o) (hb : BOk g id o) (ho : SE g c env ns ob f)
    (hs : SEs g c env ns (e :: es) fs) (h1 : starEach (e :: es) env = (false, eval e env) :: starEach es env := by rfl) (h2 : ((backTo pos (starEach es env)).any fun x => x.1) = false := by rfl)
    (h3 : eval (.Call (.Attribute ob name p2) (e :: es) [] pos) env = (do
      let ov ← eval ob env
      standAt p2.atName
      let (f, first) ← holding [ov] (getMethod ov name pl)
      callWith pos f first (backTo pos (starEach (e :: es) env)) (backToKw pos (keywordEach [] env))) := by rfl) :
    SE g c env ns (.Call (.Attribute ob name p2) (e :: es) [] pos) (methD o f fs) := by
  intro as lo H s Q E v H' P q k
  unfold methD at q
  obtain ⟨⟨x, H1⟩, e1, q⟩ := Option.bind_eq_some_iff.mp q
  obtain ⟨⟨xs, H2⟩, e2, q⟩ := Option.bind_eq_some_iff.mp q
  refine methodCall_KW (ho as lo H s _ _ x H1 P e1 fun as1 a ha tk1 P1 v1 => ?_) h3
  refine hm c.A as1 H1 _ _ _ pl a x P1.hr v1 ⟨_, _, _, q⟩ (callWith_method1 (hs pos as1 lo H1 _ _ _ xs H2 (P.step P1) e2 fun as2 vs hb2 tk2 P2 v2 => ?_) h1 h2)
  exact hb c.A as2 H2 _ _ _ (a :: vs) (x :: xs) v H' ((P.step P1).step P2).ok.un P2.hr (.cons (v1.step P1.hr P2.st) v2) q fun as3 u hb tk3 P3 v3 => k as3 u hb tk3 ((P1.trans P2).trans P3) v3
theorem SE.method0 {name : Str} {id : String} {ob : Expr} {p2 : Pos} {pl : Sem Bool} {o : List AV → AH → Option (AV × AH)} {f : Lo → AH → Option (AV × AH)} (hm : GMOk g name id o) (hb : BOk g id o) (ho : SE g c env ns ob f)
    (h3 : eval (.Call (.Attribute ob name p2) [] [] pos) env = (do
      let ov ← eval ob env
      standAt p2.atName
      let (f, first) ← holding [ov] (getMethod ov name pl)
      callWith pos f first (backTo pos (starEach [] env)) (backToKw pos (keywordEach [] env))) := by rfl) :
    SE g c env ns (.Call (.Attribute ob name p2) [] [] pos) (methD o f nilD) := by
  intro as lo H s Q E v H' P q k
  unfold methD at q
  obtain ⟨⟨x, H1⟩, e1, q⟩ := Option.bind_eq_some_iff.mp q
  obtain ⟨⟨xs, H2⟩, e2, q⟩ := Option.bind_eq_some_iff.mp q
  cases e2
  refine methodCall_KW (ho as lo H s _ _ x H1 P e1 fun as1 a ha tk1 P1 v1 => ?_) h3
  refine hm c.A as1 H1 _ _ _ pl a x P1.hr v1 ⟨_, _, _, q⟩ (callWith_method0 ?_)
  exact hb c.A as1 H1 _ _ _ [a] [x] v H' (P.step P1).ok.un P1.hr (.cons v1 .nil) q fun as3 u hb tk3 P3 v3 => k as3 u hb tk3 (P1.trans P3) v3

/-! the built-ins that are met -/
noncomputable def lenO : List AV → AH → Option (AV × AH)
  | [x], H => (asD x H).bind fun d => match d with
    | .list l => if l.length ≤ 100000 then some (.d (.int l.length), H) else none
    | .str s => if s.length ≤ 100000 then some (.d (.int s.length), H) else none
    | _ => none
  | _, _ => none
theorem VRs.un1 {vs : List Value} {x : AV} (r : VRs h as vs [x]) : ∃ v, vs = [v] ∧ VR h as v x := by
  cases r with | cons a r => cases r; exact ⟨_, rfl, a⟩
theorem VRs.un2 {vs : List Value} {x y : AV} (r : VRs h as vs [x, y]) : ∃ v u, vs = [v, u] ∧ VR h as v x ∧ VR h as u y := by
  cases r with | cons a r => obtain ⟨u, rfl, q⟩ := r.un1; exact ⟨_, _, rfl, a, q⟩
theorem b_len : BOk g "len" lenO := by
  intro A as H s Q E vs xs z H' hu hr hv e k
  unfold lenO at e
  split at e
  · rename_i x
    obtain ⟨p, e1, e⟩ := Option.bind_eq_some_iff.mp e
    obtain ⟨v, rfl, r⟩ := hv.un1
    split at e
    · split at e
      · rename_i l hl
        cases e
        obtain ⟨a, vs, rfl, hL, hc, bs, q, hn⟩ := r.list hr e1
        have hlen := readsAll_len q
        refine PyProof.Rows.len_list hL (by simp; omega) ?_
        simp only [List.size_toArray, hlen]
        exact k as _ s.heap _ (.refl hr) (.int _ _)
      · cases e
    · split at e
      · rename_i y hl
        cases e
        cases x with
        | t T => cases e1
        | r n => obtain ⟨_, _, hx⟩ := Option.map_eq_some_iff.mp e1; cases hx
        | d x => cases e1; obtain ⟨o1, t, rfl⟩ := r.unstr; exact PyProof.Rows.len_str (by omega) (k as _ s.heap _ (.refl hr) (.int _ _))
      · cases e
    · cases e
  · cases e

/-- str methods of one more str -/
noncomputable def strM (o : Str → Str → Option PyData) : List AV → AH → Option (AV × AH)
  | [.d (.str x), .d (.str y)], H => (o x y).map fun z => (.d z, H)
  | _, _ => none
theorem BOk.str {id : String} {o : Str → Str → Option PyData}
    (ht : ∀ (A : Around) (s : Shared) (Q E : Value → Shared → Prop) (x y : Str) (t u : Tok) (z : PyData), PyData.strOk x = true → PyData.strOk y = true → o x y = some z → (∀ v tk, (∀ h as, VR h as v (.d z)) → Q v { s with toks := tk }) → wpAny g.M A (call (.builtin id) [.str x t, .str y u]) Q E s) : BOk g id (strM o) := by
  intro A as H s Q E vs xs z H' hu hr hv e k
  unfold strM at e
  split at e
  · obtain ⟨d, e', e''⟩ := Option.map_eq_some_iff.mp e
    cases e''
    obtain ⟨v, u, rfl, r1, r2⟩ := hv.un2
    obtain ⟨o1, t, rfl⟩ := r1.unstr
    obtain ⟨o2, t', rfl⟩ := r2.unstr
    exact ht A s Q E _ _ t t' d o1 o2 e' fun v tk hv => k as v s.heap tk (.refl hr) (hv _ _)
  · cases e
theorem GMOk.str {name : Str} {id : String} {o : List AV → AH → Option (AV × AH)} (hd : ∀ x xs H z, o (x :: xs) H = some z → ∃ y, x = .d (.str y))
    (hg : ∀ (M : Model) (A : Around) (s : Shared) (Q : Value × List Value → Shared → Prop) (E : Value → Shared → Prop) (pl : Sem Bool) (x : Str) (t : Tok), Q (.builtin id, [.str x t]) s → wpAny M A (getMethod (.str x t) name pl) Q E s) : GMOk g name id o := by
  intro A as H s Q E pl v x hr r hx q
  obtain ⟨xs, H', z, e⟩ := hx
  obtain ⟨y, rfl⟩ := hd _ _ _ _ e
  obtain ⟨_, t, rfl⟩ := r.unstr
  exact hg _ _ _ _ _ _ _ _ q
theorem strM_kind {o : Str → Str → Option PyData} (x : AV) (xs : List AV) (H : AH) (z : AV × AH) (e : strM o (x :: xs) H = some z) : ∃ y, x = .d (.str y) := by
  unfold strM at e
  split at e
  · rename_i h; cases h; exact ⟨_, rfl⟩
  · cases e
noncomputable def startO (x y : Str) : Option PyData := some (.bool (Txt.startswith x y))
noncomputable def endO (x y : Str) : Option PyData := some (.bool (Txt.endswith x y))
noncomputable def rfindO (x y : Str) : Option PyData := some (.int (Txt.rfind x y))
noncomputable def rstripO (x y : Str) : Option PyData := if x.length ≤ 100000 ∧ PyData.strOk (Txt.rstripChars x y) = true then some (.str (Txt.rstripChars x y)) else none
theorem b_start : BOk g "str.startswith" (strM startO) := .str fun A s Q E x y t u z _ _ e k => by cases e; exact SC.startswith (k _ _ fun h as => .bool _)
theorem b_end : BOk g "str.endswith" (strM endO) := .str fun A s Q E x y t u z _ _ e k => by cases e; exact SC.endswith (k _ _ fun h as => .bool _)
theorem b_rfind : BOk g "str.rfind" (strM rfindO) := .str fun A s Q E x y t u z _ _ e k => by cases e; exact SC.rfind (k _ _ fun h as => .int _ _)
theorem b_rstrip : BOk g "str.rstrip" (strM rstripO) := .str fun A s Q E x y t u z _ _ e k => by
  unfold rstripO at e
  split at e
  · rename_i h; cases e; exact SC.rstripChars (fun t' tk => k _ _ fun h' as => .str _ _ h.2) (by rw [sizeLine_eq]; omega)
  · cases e
theorem g_start : GMOk g "startswith" "str.startswith" (strM startO) := .str strM_kind fun _ _ _ _ _ _ _ _ q => GM.startswith q
theorem g_end : GMOk g "endswith" "str.endswith" (strM endO) := .str strM_kind fun _ _ _ _ _ _ _ _ q => GM.endswith q
theorem g_rfind : GMOk g "rfind" "str.rfind" (strM rfindO) := .str strM_kind fun _ _ _ _ _ _ _ _ q => GM.rfind q
theorem g_rstrip : GMOk g "rstrip" "str.rstrip" (strM rstripO) := .str strM_kind fun _ _ _ _ _ _ _ _ q => GM.rstrip q

/-- split: a new list of strs -/
noncomputable def splitO : List AV → AH → Option (AV × AH)
  | [.d (.str x), .d (.str y)], H => if x.length ≤ 100000 ∧ (y.length == 0) = false ∧ (Builtin.Str.partsBetween x (Builtin.Str.occurrences x y 0 x.length (x.length + 1)) y.length).length ≤ 100000 ∧ ((Txt.split x y).all PyData.strOk) = true then some (.d (.list ((Txt.split x y).map .str)), H) else none
  | _, _ => none
theorem reads_strs {l : List (Str × Tok)} (hc : (l.map (·.1)).all PyData.strOk = true) : PyData.canLayAll0 ((l.map (·.1)).map .str) = true ∧ ReadsAll h (strValues l) ((l.map (·.1)).map .str) [] := by
  induction l with
  | nil => exact ⟨rfl, .nil⟩
  | cons p l ih =>
    simp only [List.map_cons, List.all_cons, Bool.and_eq_true] at hc
    exact ⟨by simp only [List.map_cons, PyData.canLayAll0, PyData.canLay0, Bool.and_eq_true]; exact ⟨hc.1, (ih hc.2).1⟩, .cons (as := []) (.str _ _) (ih hc.2).2⟩
theorem split_new {A : Around} {s : Shared} {Q E : Value → Shared → Prop} {x y : Str} {t u : Tok} (hy : (y.length == 0) = false) (hz : x.length ≤ sizeLine) (hw : (Builtin.Str.partsBetween x (Builtin.Str.occurrences x y 0 x.length (x.length + 1)) y.length).length ≤ sizeLine)
    (k : ∀ l tk, l.map (·.1) = Txt.split x y → Q (.ref s.heap.objs.size) { s with heap := s.heap.push (listOf (strValues l).toArray 0), toks := tk }) : wpAny g.M A (call (.builtin "str.split") [.str x t, .str y u]) Q E s := by
  cases h1 : (decide (x.length < y.length) || decide (Builtin.Str.strKind x < Builtin.Str.strKind y)) with
  | true => exact call_meets F.slot_str_split (typeIs_str _ _ _) F.entry_str_split (F.args_str_split_2 _ _) (meets_str_split_cannot_occur x y t u h1) (k [(x, t)] _ (if_pos h1).symm)
  | false =>
    cases hf : (Builtin.Str.occurrences x y 0 x.length (x.length + 1)).isEmpty with
    | true => exact call_meets F.slot_str_split (typeIs_str _ _ _) F.entry_str_split (F.args_str_split_2 _ _) (meets_str_split_not_found x y t u h1 hy hf) (k [(x, t)] _ ((if_neg (ne_true_of_eq_false h1)).trans (if_pos hf)).symm)
    | false =>
      refine call_meets F.slot_str_split (typeIs_str _ _ _) F.entry_str_split (F.args_str_split_2 _ _) (meets_str_split_sep x y t u h1 hy hf hz hw) ?_
      have e := ((numbered_texts s.toks _).trans ((if_neg (ne_true_of_eq_false h1)).trans (if_neg (ne_true_of_eq_false hf))).symm : _ = Txt.split x y)
      have q := k _ (s.toks + (Builtin.Str.partsBetween x (Builtin.Str.occurrences x y 0 x.length (x.length + 1)) y.length).length) e
      rw [← strsFrom_eq] at q
      exact q
theorem b_split : BOk g "str.split" splitO := by
  intro A as H s Q E vs xs z H' hu hr hv e k
  unfold splitO at e
  split at e
  · split at e
    · rename_i hz
      cases e
      obtain ⟨v, u, rfl, r1, r2⟩ := hv.un2
      obtain ⟨o1, t, rfl⟩ := r1.unstr
      obtain ⟨o2, t', rfl⟩ := r2.unstr
      refine split_new hz.2.1 (by rw [sizeLine_eq]; omega) (by rw [sizeLine_eq]; omega) fun l tk hl => ?_
      obtain ⟨hc, q⟩ := reads_strs (h := s.heap) (l := l) (by rw [hl]; exact hz.2.2.2)
      rw [hl] at hc q
      exact k as _ _ tk ⟨stp_push _, hr.push _⟩ (VR.newList (n := 0) hr hc q fun b m => (nomatch m))
    · cases e
  · cases e
theorem splitO_kind (x : AV) (xs : List AV) (H : AH) (z : AV × AH) (e : splitO (x :: xs) H = some z) : ∃ y, x = .d (.str y) := by
  unfold splitO at e
  split at e
  · rename_i h; cases h; exact ⟨_, rfl⟩
  · cases e
theorem g_split : GMOk g "split" "str.split" splitO := .str splitO_kind fun _ _ _ _ _ _ _ _ q => GM.split q

noncomputable def strList : List PyData → Option (List Str)
  | [] => some []
  | .str x :: r => (strList r).map (x :: ·)
  | _ :: _ => none
noncomputable def joinO : List AV → AH → Option (AV × AH)
  | [.d (.str x), y], H => (asD y H).bind fun d => match d with
    | .list l => (strList l).bind fun ss => if JoinOk x ss = true ∧ PyData.strOk (Txt.join x ss) = true then some (.d (.str (Txt.join x ss)), H) else none
    | _ => none
  | _, _ => none
theorem strList_reads {vs : List Value} {l : List PyData} {ss : List Str} {bs : List Addr} (e : strList l = some ss) (r : ReadsAll h vs l bs) : ∃ q : List (Str × Tok), vs = strValues q ∧ q.map (·.1) = ss := by
  induction l generalizing vs ss bs with
  | nil => cases e; cases r; exact ⟨[], rfl, rfl⟩
  | cons d l ih =>
    cases d with
    | str x =>
      obtain ⟨ss', e', rfl⟩ := Option.map_eq_some_iff.mp e
      cases r with
      | cons a r =>
        cases a
        obtain ⟨q, rfl, h2⟩ := ih e' r
        exact ⟨(x, _) :: q, rfl, by simp [h2]⟩
    | _ => cases e
theorem b_join : BOk g "str.join" joinO := by
  intro A as H s Q E vs xs z H' hu hr hv e k
  unfold joinO at e
  split at e
  · obtain ⟨d, e1, e⟩ := Option.bind_eq_some_iff.mp e
    obtain ⟨v, u, rfl, r1, r2⟩ := hv.un2
    obtain ⟨o1, t, rfl⟩ := r1.unstr
    split at e
    · obtain ⟨ss, e2, e⟩ := Option.bind_eq_some_iff.mp e
      split at e
      · rename_i hz
        cases e
        obtain ⟨a, vs, rfl, hL, hc, bs, q, hn⟩ := r2.list hr e1
        obtain ⟨l, rfl, hl⟩ := strList_reads e2 q
        exact SC.join hL hl hz.1 fun t' tk => k as _ s.heap tk (.refl hr) (.str _ _ hz.2)
      · cases e
    · cases e
  · cases e
theorem joinO_kind (x : AV) (xs : List AV) (H : AH) (z : AV × AH) (e : joinO (x :: xs) H = some z) : ∃ y, x = .d (.str y) := by
  unfold joinO at e
  split at e
  · rename_i h; cases h; exact ⟨_, rfl⟩
  · cases e
theorem g_join : GMOk g "join" "str.join" joinO := .str joinO_kind fun _ _ _ _ _ _ _ _ q => GM.join q

/-! the tracked lists change -/
theorem HR.mapSeq (hr : HR as H h) {i : Nat} {a : Addr} (hi : as[i]? = some a) {vs ws : List Value} {n : Nat} {l : List PyData} {bs : List Addr} (ho : h.get? a = some (listOf vs.toArray n)) (hc : PyData.canLayAll0 l = true) (r : ReadsAll h ws l bs) (hn : ∀ b ∈ bs, b ∉ as)
    (f : Array Value → Array Value) (hf : f vs.toArray = ws.toArray) : Post as h as (H.set i l) (h.update a (Obj.mapSeq f)) := by
  have e : ∀ o, h.get? a = some o → Obj.mapSeq f o = listOf ws.toArray (if ws.toArray.size == vs.toArray.size then n else n + 1) := fun o q => by
    rw [ho] at q; cases q
    simp only [Obj.mapSeq, hf]
  exact ⟨stp_set (List.mem_of_getElem? hi) (fun o q => by rw [e o q]; rfl), hr.set hi hc r hn e⟩
noncomputable def appO : List AV → AH → Option (AV × AH)
  | [.r i, .d x], H => (H[i]?).bind fun l => if l.length ≤ 100000 then some (.d .none, H.set i (l ++ [x])) else none
  | _, _ => none
theorem b_append : BOk g "list.append" appO := by
  intro A as H s Q E vs xs z H' hu hr hv e k
  unfold appO at e
  split at e
  · rename_i i x
    obtain ⟨l, e1, e⟩ := Option.bind_eq_some_iff.mp e
    split at e
    · rename_i hz
      cases e
      obtain ⟨v, u, rfl, ⟨a, rfl, ha⟩, hc, bs, q, hn⟩ := hv.un2
      obtain ⟨vs, n, cs, ho, hc', q', hn'⟩ := hr.ls i a l ha e1
      have hlen := readsAll_len q'
      refine wpAny_call_entry slot_list_append ⟨_, ho, rfl⟩ entry_list_append ?_ (args_list_append _ _)
      show wpAny _ _ (updateSeq a (·.push u) >>= fun _ => ret .none) _ _ s
      refine wpAny_bind (wpAny_updateSeq ho rfl (wpAny_pure ⟨.none, rfl, k as _ _ s.toks ?_ .none⟩) (by simp; rw [sizeLine_eq]; omega) (by simp; rw [sizeLine_eq]; omega))
      exact hr.mapSeq ha ho (canLayAll_append hc' (by simp [PyData.canLayAll0, hc])) (readsAll_append q' (by simpa using ReadsAll.cons q .nil)) (fun b m => (List.mem_append.mp m).elim (hn' b) (hn b)) _ (by simp)
    · cases e
  · cases e
noncomputable def popO : List AV → AH → Option (AV × AH)
  | [.r i], H => (H[i]?).bind fun l => if l.length ≤ 100000 then (l.getLast?).map fun x => (.d x, H.set i l.dropLast) else none
  | _, _ => none
theorem readsAll_snoc {vs : List Value} {l : List PyData} {x : PyData} {bs : List Addr} (r : ReadsAll h vs (l ++ [x]) bs) : ∃ ws u cs ds, vs = ws ++ [u] ∧ ReadsAll h ws l cs ∧ Reads h u x ds ∧ (∀ b ∈ cs, b ∈ bs) ∧ ∀ b ∈ ds, b ∈ bs := by
  induction l generalizing vs bs with
  | nil => cases r with | cons a r => cases r; exact ⟨[], _, [], _, rfl, .nil, a, fun _ m => (nomatch m), fun b m => List.mem_append_left _ m⟩
  | cons y l ih =>
    cases r with
    | cons a r =>
      obtain ⟨ws, u, cs, ds, rfl, q1, q2, m1, m2⟩ := ih r
      exact ⟨_ :: ws, u, _, ds, rfl, .cons a q1, q2, fun b m => (List.mem_append.mp m).elim (List.mem_append_left _) fun m => List.mem_append_right _ (m1 b m), fun b m => List.mem_append_right _ (m2 b m)⟩
theorem erase_endL : ∀ (p : List Value) (y : Value), (p ++ [y]).eraseIdx p.length = p
  | [], _ => rfl
  | x :: p, y => by show x :: (p ++ [y]).eraseIdx p.length = _; rw [erase_endL p y]
theorem erase_end (p : List Value) (y : Value) : ((p ++ [y]).toArray).eraseIdxIfInBounds p.length = p.toArray := by
  have h : p.length < (p ++ [y]).toArray.size := by rw [List.size_toArray, List.length_append, List.length_singleton]; omega
  unfold Array.eraseIdxIfInBounds
  rw [dif_pos h]
  apply Array.toList_inj.mp
  rw [Array.toList_eraseIdx]
  exact erase_endL p y
theorem b_pop : BOk g "list.pop" popO := by
  intro A as H s Q E vs xs z H' hu hr hv e k
  unfold popO at e
  split at e
  · rename_i i
    obtain ⟨l, e1, e⟩ := Option.bind_eq_some_iff.mp e
    split at e
    · rename_i hz
      obtain ⟨x, e2, e⟩ := Option.map_eq_some_iff.mp e
      cases e
      obtain ⟨v, rfl, ⟨a, rfl, ha⟩⟩ := hv.un1
      obtain ⟨vs, n, cs, ho, hc', q', hn'⟩ := hr.ls i a l ha e1
      have hlen := readsAll_len q'
      obtain ⟨m, rfl⟩ := List.getLast?_eq_some_iff.mp e2
      rw [List.dropLast_concat] at k
      obtain ⟨ws, u, ds, es, rfl, q1, q2, m1, m2⟩ := readsAll_snoc q'
      have hcx : x.canLay0 = true ∧ PyData.canLayAll0 m = true := ⟨canLayAll_mem.mp hc' x (by simp), canLayAll_sub hc' fun y hy => by simp [hy]⟩
      have hk : (ws ++ [u]).toArray.size - 1 = ws.length := by simp
      refine call_meets PySem.F.slot_list_pop ⟨_, ho, rfl⟩ PySem.F.entry_list_pop (PySem.F.args_list_pop_1 _) (PySem.MeetsSeq.list_pop_last a _ n u (by rw [hk]; simp) (by simp at hlen ⊢; rw [sizeLine_eq]; simp at hz; omega)) ⟨ho, ?_⟩
      have P1 := hr.mapSeq ha ho hcx.2 q1 (fun b m => hn' b (m1 b m)) (fun xs => xs.eraseIdxIfInBounds ((ws ++ [u]).toArray.size - 1)) (by rw [hk, erase_end])
      exact k as u _ s.toks P1 ((show VR s.heap as u (.d x) from ⟨hcx.1, es, q2, fun b m => hn' b (m2 b m)⟩).step hr P1.st)
    · cases e
  · cases e
theorem GMOk.list {name : Str} {id : String} {o : List AV → AH → Option (AV × AH)} (hd : ∀ x xs H z, o (x :: xs) H = some z → ∃ i, x = .r i)
    (slot : Slot "list" name id) (hty : typeOf (.builtin id) = pure (.type "method_descriptor")) : GMOk g name id o := by
  intro A as H s Q E pl v x hr r hx q
  obtain ⟨xs, H', z, e⟩ := hx
  obtain ⟨i, rfl⟩ := hd _ _ _ _ e
  obtain ⟨a, rfl, ha⟩ := r
  obtain ⟨vs, n, ho⟩ := hr.seq (List.mem_of_getElem? ha)
  exact getMethod_list_of slot hty ⟨_, ho, rfl, n, rfl⟩ ⟨_, ho, rfl⟩ q
theorem g_append : GMOk g "append" "list.append" appO := .list (fun x xs H z e => by unfold appO at e; split at e <;> first | (rename_i h; cases h; exact ⟨_, rfl⟩) | cases e) slot_list_append F.type_list_append
theorem g_pop : GMOk g "pop" "list.pop" popO := .list (fun x xs H z e => by unfold popO at e; split at e <;> first | (rename_i h; cases h; exact ⟨_, rfl⟩) | cases e) F.slot_list_pop F.type_list_pop
/-- xs[k] = v -/
noncomputable def setO (a i v : AV) (H : AH) : Option AH := match a, i, v with
  | .r n, .d (.int k), .d x => (H[n]?).bind fun l => if 0 ≤ k ∧ k < l.length ∧ l.length ≤ 100000 then some (H.set n (l.set k.toNat x)) else none
  | _, _, _ => none
theorem readsAll_set {vs : List Value} {l : List PyData} {u : Value} {x : PyData} {bs cs : List Addr} (r : ReadsAll h vs l bs) (q : Reads h u x cs) (k : Nat) : ∃ ds, ReadsAll h (vs.set k u) (l.set k x) ds ∧ ∀ b ∈ ds, b ∈ bs ∨ b ∈ cs := by
  induction l generalizing vs bs k with
  | nil => cases r; exact ⟨[], by simpa using .nil, fun _ m => (nomatch m)⟩
  | cons y l ih =>
    cases r with
    | cons a r =>
      cases k with
      | zero => exact ⟨_, .cons q r, fun b m => (List.mem_append.mp m).elim .inr fun m => .inl (List.mem_append_right _ m)⟩
      | succ k =>
        obtain ⟨ds, p, hm⟩ := ih r k
        exact ⟨_, .cons a p, fun b m => (List.mem_append.mp m).elim (fun m => .inl (List.mem_append_left _ m)) fun m => (hm b m).imp (List.mem_append_right _) id⟩
theorem setItem_exact {A : Around} {s : Shared} {Q : Unit → Shared → Prop} {E : Value → Shared → Prop} {l : Addr} {items : Array Value} {n : Nat} {k : Int} {t : Tok} {v : Value} (ho : s.heap.get? l = some (listOf items n)) (h0 : 0 ≤ k) (hfit : k < 2 ^ 63) (hn : k < items.size)
    (hq : Q () { s with heap := s.heap.update l (Obj.mapSeq (·.setIfInBounds k.toNat v)) }) : wpAny g.M A (setItem (.ref l) (.int k t) v) Q E s := by
  have hT : s.TypeIs (.ref l) "list" := ⟨_, ho, rfl⟩
  unfold setItem
  try with_reducible refine wpAny_holding ?_
  first | refine wpAny_bind (wpAny_pure ?_) | skip
  refine wpAny_bind (wpAny_sequenceKey hT (by decide) ?_)
  refine wpAny_bind (wpAny_callSpecial?_slot (name := Str.ofString "__setitem__") hT slot_list_setitem (wpAny_call_entry slot_list_setitem hT entry_list_setitem ?_ (args_list_setitem _ _ _)))
  show wpAny _ _ (Builtin.List.listSubscript? (.int k t) >>= _) _ _ s
  refine wpAny_bind (wpAny_listSubscript_int (fitsIndex_of h0 hfit) ?_)
  clear hfit
  obtain ⟨j, rfl⟩ := Int.eq_ofNat_of_zero_le h0
  have hj : j < items.size := by omega
  have hx' : items[j]? = some items[j] := Array.getElem?_eq_getElem hj
  show wpAny _ _ ((seqItemAt l j >>= fun r => pure (r.map (j, ·))) >>= _) _ _ s
  refine wpAny_bind (wpAny_bind (wpAny_seqItemAt ho rfl (wpAny_pure ?_)))
  rw [hx']
  show wpAny _ _ (setSeqItemAt l j v >>= _) _ _ s
  refine wpAny_bind (wpAny_setSeqItemAt ho rfl ?_)
  first
    | exact wpAny_bind (wpAny_pure (wpAny_pure ⟨.none, rfl, wpAny_pure hq⟩))
    | exact wpAny_pure ⟨.none, rfl, wpAny_pure hq⟩
theorem setItem_ok {A : Around} {s : Shared} {Q : Unit → Shared → Prop} {E : Value → Shared → Prop} {a i v : Value} {x y z : AV} (hr : HR as H s.heap) (ha : VR s.heap as a x) (hi : VR s.heap as i y) (hv : VR s.heap as v z) (e : setO x y z H = some H')
    (k : ∀ h', Post as s.heap as H' h' → Q () { s with heap := h' }) : wpAny g.M A (setItem a i v) Q E s := by
  unfold setO at e
  split at e
  · rename_i n k' d
    obtain ⟨l, e1, e⟩ := Option.bind_eq_some_iff.mp e
    split at e
    · rename_i hz
      cases e
      obtain ⟨a', rfl, ha'⟩ := ha
      obtain ⟨t, rfl⟩ := hi.unint
      obtain ⟨hcd, es, rd, hnd⟩ := hv
      obtain ⟨vs, m, cs, ho, hc', q', hn'⟩ := hr.ls n a' l ha' e1
      have hlen := readsAll_len q'
      obtain ⟨ds, q2, m2⟩ := readsAll_set q' rd k'.toNat
      have P1 := hr.mapSeq ha' ho (canLayAll_mem.mpr fun y hy => (List.mem_or_eq_of_mem_set hy).elim (fun h => canLayAll_mem.mp hc' y h) fun h => h ▸ hcd) q2 (fun b m => (m2 b m).elim (hn' b) (hnd b)) (·.setIfInBounds k'.toNat v) (by simp)
      exact setItem_exact ho hz.1 (by omega) (by simp; omega) (k _ P1)
    · cases e
  · cases e
end
/-- the environment is the frame's own -/
structure FEnv (c : Cx) (env : Env) (ns : List Str) : Prop extends EnvOk env where
  loc : env.locals = c.L
  own : c.fenv = env
  nd : ns.Nodup
  cnd : (env.cells.map (·.2)).Nodup

inductive AF where
  | next | brk | cont
  | ret (v : AV)
noncomputable def FR (h : Heap) (as : List Addr) : Flow → AF → Prop
  | .next, .next => True
  | .brk, .brk => True
  | .cont, .cont => True
  | .ret v, .ret x => VR h as v x
  | _, _ => False
noncomputable def Us (c : Cx) (env : Env) : List Addr := c.L :: env.cells.map (·.2)
abbrev Den := Lo → AH → Option (AF × Lo × AH)

noncomputable def SX (g : Gx) (c : Cx) (env : Env) (ns : List Str) (st : Stmt) (G : Den) : Prop :=
  ∀ (as : List Addr) (lo : Lo) (H : AH) (s : Shared) (Q : Flow → Shared → Prop) (E : Value → Shared → Prop) (fl : AF) (lo' : Lo) (H' : AH), Pre g c env ns as lo H s.heap → G lo H = some (fl, lo', H') →
    (∀ as' f h' tk, Stp (Us c env) as s.heap as' h' → Pre g c env ns as' lo' H' h' → FR h' as' f fl → Q f { s with heap := h', toks := tk }) → wpAny g.M c.A (exec st env) Q E s
noncomputable def SS (g : Gx) (c : Cx) (env : Env) (ns : List Str) (st : List Stmt) (G : Den) : Prop :=
  ∀ (as : List Addr) (lo : Lo) (H : AH) (s : Shared) (Q : Flow → Shared → Prop) (E : Value → Shared → Prop) (fl : AF) (lo' : Lo) (H' : AH), Pre g c env ns as lo H s.heap → G lo H = some (fl, lo', H') →
    (∀ as' f h' tk, Stp (Us c env) as s.heap as' h' → Pre g c env ns as' lo' H' h' → FR h' as' f fl → Q f { s with heap := h', toks := tk }) → wpAny g.M c.A (execs st env) Q E s

section
variable {g : Gx} {c : Cx} {env : Env} {ns : List Str} {pos : Pos} {as as' : List Addr} {lo : Lo} {H H' : AH} {h h' : Heap}

theorem Post.up {U : List Addr} (p : Post as h as' H' h') : Stp U as h as' h' := p.st.weaken fun _ m => (nomatch m)
theorem LO.mk_set {i : Nat} {v : AV} (hs : ∀ x, ns[i]? = some x → NameAt env h as x v) (hl : ∀ (j : Nat) (x : Str) (u : AV), j ≠ i → ns[j]? = some x → lo[j]? = some (some u) → NameAt env h as x u) : LO env ns (lo.set i (some v)) as h := by
  intro j x u e1 e2
  by_cases hj : j = i
  · subst hj
    by_cases hl' : j < lo.length
    · rw [List.getElem?_set_self hl'] at e2; cases e2; exact hs x e1
    · rw [List.getElem?_eq_none (by simp; omega)] at e2; cases e2
  · rw [List.getElem?_set_ne (Ne.symm hj)] at e2
    exact hl j x u hj e1 e2

theorem store_local {i : Nat} {x : Str} {s : Shared} {Q : Unit → Shared → Prop} {E : Value → Shared → Prop} {v : Value} {av : AV} {A : Around} (fe : FEnv c env ns) (hi : ns[i]? = some x) (hk : env.kindOf x = some .local) (P : Pre g c env ns as lo H s.heap) (hv : VR s.heap as v av)
    (k : ∀ h' tk, Stp (Us c env) as s.heap as h' → Pre g c env ns as (lo.set i (some av)) H h' → Q () { s with heap := h', toks := tk }) : wpAny g.M A (storeName env x v) Q E s := by
  obtain ⟨m, F⟩ := P.ok.F
  have hns : s.heap.Ns env.locals m := by rw [fe.loc]; exact F.ns
  refine wpAny_storeName_local hk hns (fun h' hn hs => ?_) (by rw [fe.fk]; rfl)
  rw [fe.loc] at hn hs
  obtain ⟨oL, esL, epL, hoL, hdL, _⟩ := F.ns
  have seqL : seqy oL = false := by unfold seqy; rw [hdL]
  have notL : ∀ b o, s.heap.get? b = some o → seqy o = true → b ≠ c.L := fun b o e q z => by rw [z, hoL] at e; cases e; rw [seqL] at q; cases q
  have st : Stp (Us c env) as s.heap as h' := by
    refine ⟨List.prefix_refl _, fun _ h1 h2 => absurd h1 h2, fun b o e n q => ?_, fun b o e => ?_⟩
    · by_cases hb : b = c.L
      · subst hb; exact absurd rfl (notL _ o e (q (.head _)))
      · rw [hs.2 b hb]; exact e
    · by_cases hb : b = c.L
      · subst hb; obtain ⟨o', _, _, ho', _⟩ := hn; exact ⟨o', ho'⟩
      · exact ⟨o, by rw [hs.2 b hb]; exact e⟩
  have hr' : HR as H h' := P.hr.step st.to0 fun a ha o e => by
    obtain ⟨vs, n, e'⟩ := P.hr.seq ha
    rw [hs.2 a (notL a _ e' rfl)]; exact e
  refine k h' _ st ⟨⟨P.ok.B, P.ok.T, P.ok.Tb, P.ok.fr, P.ok.ff, P.ok.fk, P.ok.room, P.ok.units, ⟨_, F.set hn hs⟩, P.ok.nw⟩, LO.mk_set (fun y hy => ?_) (fun j y u hj e1 e2 => ?_), hr', fun q hq => ⟨(P.cl q hq).1, ?_⟩⟩
  · rw [hi] at hy; cases hy
    exact ⟨fe.fk, v, hv.step P.hr st, .inl ⟨hk, _, fe.loc ▸ hn, if_pos rfl⟩⟩
  · obtain ⟨q1, u', q2, q3⟩ := P.lo j y u e1 e2
    refine ⟨q1, u', q2.step P.hr st, q3.imp (fun ⟨a1, m', a2, a3⟩ => ⟨a1, _, fe.loc ▸ hn, ?_⟩) fun ⟨a1, b, a2, a3⟩ => ⟨a1, b, a2, ?_⟩⟩
    · have ne : y ≠ x := fun z => hj ((List.getElem?_inj (List.getElem?_eq_some_iff.mp e1).1 fe.nd).mp (e1.trans (z ▸ hi.symm)))
      rw [if_neg ne]
      obtain ⟨o1, es1, ep1, ho1, hd1, _, hf1⟩ := hns
      obtain ⟨o2, es2, ep2, ho2, hd2, _, hf2⟩ := a2
      rw [ho1] at ho2; cases ho2
      rw [hd1] at hd2; cases hd2
      rw [← hf1 y, hf2 y]; exact a3
    · obtain ⟨o, ho, hd⟩ := a3
      refine ⟨o, ?_, hd⟩
      rw [hs.2 b fun z => by rw [z, hoL] at ho; cases ho; rw [hdL] at hd; cases hd]
      exact ho
  · obtain ⟨w, o, ho, hd⟩ := (P.cl q hq).2
    exact ⟨w, o, by rw [hs.2 q.2 fun z => by rw [z, hoL] at ho; cases ho; rw [hdL] at hd; cases hd]; exact ho, hd⟩
theorem lookup_mem {l : List (Str × Addr)} {y : Str} {a : Addr} (e : l.lookup y = some a) : ∃ p ∈ l, p.2 = a := by
  induction l with
  | nil => cases e
  | cons p l ih =>
    obtain ⟨p1, p2⟩ := p
    rw [List.lookup_cons] at e
    split at e
    · cases e; exact ⟨_, .head _, rfl⟩
    · obtain ⟨q, hq, hr⟩ := ih e; exact ⟨q, .tail _ hq, hr⟩
theorem lookup_mem' {l : List (Str × Addr)} {y : Str} {a : Addr} (e : l.lookup y = some a) : a ∈ l.map (·.2) := by
  obtain ⟨p, hp, rfl⟩ := lookup_mem e; exact List.mem_map_of_mem hp
theorem store_cell {i : Nat} {x : Str} {s : Shared} {Q : Unit → Shared → Prop} {E : Value → Shared → Prop} {v : Value} {av : AV} {A : Around} {ca : Addr} (fe : FEnv c env ns) (hi : ns[i]? = some x) (hk : env.kindOf x = some .cell) (hc : env.cells.lookup x = some ca)
    (P : Pre g c env ns as lo H s.heap) (hv : VR s.heap as v av)
    (k : ∀ h' tk, Stp (Us c env) as s.heap as h' → Pre g c env ns as (lo.set i (some av)) H h' → Q () { s with heap := h', toks := tk }) : wpAny g.M A (storeName env x v) Q E s := by
  obtain ⟨m, F⟩ := P.ok.F
  obtain ⟨pc, hpc, rfl⟩ := lookup_mem hc
  obtain ⟨hca, v₀, hcell⟩ := P.cl pc hpc
  generalize hgen : pc.2 = ca at hc hca hcell
  refine wpAny_storeName_cell fe.fk hk hc hcell fun h' hn hs => ?_
  obtain ⟨oc, hoc, hdc⟩ := hcell
  have seqC : seqy oc = false := by unfold seqy; rw [hdc]
  have notC : ∀ b o, s.heap.get? b = some o → seqy o = true → b ≠ ca := fun b o e q z => by rw [z, hoc] at e; cases e; rw [seqC] at q; cases q
  have st : Stp (Us c env) as s.heap as h' := by
    refine ⟨List.prefix_refl _, fun _ h1 h2 => absurd h1 h2, fun b o e n q => ?_, fun b o e => ?_⟩
    · by_cases hb : b = ca
      · subst hb; exact absurd rfl (notC _ o e (q (.tail _ (lookup_mem' hc))))
      · rw [hs.2 b hb]; exact e
    · by_cases hb : b = ca
      · subst hb; obtain ⟨o', ho', _⟩ := hn; exact ⟨o', ho'⟩
      · exact ⟨o, by rw [hs.2 b hb]; exact e⟩
  have hr' : HR as H h' := P.hr.step st.to0 fun a ha o e => by
    obtain ⟨vs, n, e'⟩ := P.hr.seq ha
    rw [hs.2 a (notC a _ e' rfl)]; exact e
  have neL : c.L ≠ ca := fun z => by obtain ⟨o, _, _, ho, hd, _⟩ := F.ns; rw [z, hoc] at ho; cases ho; rw [hdc] at hd; cases hd
  have F' : Fr c.h₀ c.L h' m := ⟨F.ns.sameBut hs neL, fun b o e => by rw [hs.2 b fun z => by rw [z, hca] at e; cases e]; exact F.keep b o e, F.above⟩
  refine k h' _ st ⟨⟨P.ok.B, P.ok.T, P.ok.Tb, P.ok.fr, P.ok.ff, P.ok.fk, P.ok.room, P.ok.units, ⟨_, F'⟩, P.ok.nw⟩, LO.mk_set (fun y hy => ?_) (fun j y u hj e1 e2 => ?_), hr', fun q hq => ⟨(P.cl q hq).1, ?_⟩⟩
  · rw [hi] at hy; cases hy
    exact ⟨fe.fk, v, hv.step P.hr st, .inr ⟨hk, ca, hc, hn⟩⟩
  · obtain ⟨q1, u', q2, q3⟩ := P.lo j y u e1 e2
    refine ⟨q1, u', q2.step P.hr st, q3.imp (fun ⟨a1, m', a2, a3⟩ => ⟨a1, m', a2.sameBut hs (by rw [fe.loc]; exact neL), a3⟩) fun ⟨a1, b, a2, a3⟩ => ⟨a1, b, a2, ?_⟩⟩
    obtain ⟨o, ho, hd⟩ := a3
    refine ⟨o, ?_, hd⟩
    rw [hs.2 b fun z => ?_]
    · exact ho
    · have ne : y ≠ x := fun z => hj ((List.getElem?_inj (List.getElem?_eq_some_iff.mp e1).1 fe.nd).mp (e1.trans (z ▸ hi.symm)))
      subst z
      have inj : ∀ {l : List (Str × Addr)} {y x : Str} {a : Addr}, (l.map (·.2)).Nodup → l.lookup y = some a → l.lookup x = some a → y = x := by
        intro l
        induction l with
        | nil => intro y x a _ e; cases e
        | cons p l ih =>
          intro y x a hn e1 e2
          obtain ⟨p1, p2⟩ := p
          simp only [List.map_cons, List.nodup_cons] at hn
          rw [List.lookup_cons] at e1 e2
          split at e1
          · rename_i hy
            cases e1
            split at e2
            · rename_i hx; rw [eq_of_beq hy, eq_of_beq hx]
            · exact absurd (lookup_mem' e2) hn.1
          · split at e2
            · cases e2; exact absurd (lookup_mem' e1) hn.1
            · exact ih hn.2 e1 e2
      exact ne (inj fe.cnd a2 hc)
  · by_cases hb : q.2 = ca
    · rw [hb]; exact ⟨_, hn⟩
    · obtain ⟨w, o, ho, hd⟩ := (P.cl q hq).2; exact ⟨w, o, by rw [hs.2 q.2 hb]; exact ho, hd⟩
end
noncomputable def setD (i : Nat) (f : Lo → AH → Option (AV × AH)) (lo : Lo) (H : AH) : Option (AF × Lo × AH) := (f lo H).map fun p => (.next, lo.set i (some p.1), p.2)
noncomputable def retD (f : Lo → AH → Option (AV × AH)) (lo : Lo) (H : AH) : Option (AF × Lo × AH) := (f lo H).map fun p => (.ret p.1, lo, p.2)
noncomputable def exprD (f : Lo → AH → Option (AV × AH)) (lo : Lo) (H : AH) : Option (AF × Lo × AH) := (f lo H).map fun p => (.next, lo, p.2)
noncomputable def iteD (t : Lo → AH → Option (Bool × AH)) (a b : Den) (lo : Lo) (H : AH) : Option (AF × Lo × AH) := (t lo H).bind fun p => if p.1 then a lo p.2 else b lo p.2
noncomputable def doneD : Den := fun lo H => some (.next, lo, H)
noncomputable def flowD (f : AF) : Den := fun lo H => some (f, lo, H)
noncomputable def seqD (a b : Den) (lo : Lo) (H : AH) : Option (AF × Lo × AH) := (a lo H).bind fun p => match p.1 with
  | .next => b p.2.1 p.2.2
  | f => some (f, p.2)
noncomputable def storeD (fv fo fi : Lo → AH → Option (AV × AH)) (lo : Lo) (H : AH) : Option (AF × Lo × AH) :=
  (fv lo H).bind fun p => (fo lo p.2).bind fun q => (fi lo q.2).bind fun r => (setO q.1 r.1 p.1 r.2).map fun H' => (.next, lo, H')
noncomputable def augD (i : Nat) (o : AV → AV → AH → Option AV) (f : Lo → AH → Option (AV × AH)) (lo : Lo) (H : AH) : Option (AF × Lo × AH) :=
  (ldD i lo H).bind fun p => (f lo p.2).bind fun q => (o p.1 q.1 q.2).map fun z => (.next, lo.set i (some z), q.2)
noncomputable def whileD (t : Lo → AH → Option (Bool × AH)) (b : Den) : Nat → Den
  | 0, _, _ => none
  | n + 1, lo, H => (t lo H).bind fun p => if p.1 then (b lo p.2).bind fun q => (match q.1 with
      | .next => whileD t b n q.2.1 q.2.2
      | .cont => whileD t b n q.2.1 q.2.2
      | .brk => some (.next, q.2)
      | .ret v => some (.ret v, q.2)) else some (.next, lo, p.2)

section
variable {g : Gx} {c : Cx} {env : Env} {ns : List Str} {pos : Pos} {as as' : List Addr} {lo : Lo} {H H' : AH} {h h' : Heap}

theorem SX.assign {x : Str} {i : Nat} {e : Expr} {p2 : Pos} {f : Lo → AH → Option (AV × AH)} (fe : FEnv c env ns) (hi : ns[i]? = some x) (h1 : SE g c env ns e f) (hk : env.kindOf x = some .local := by rfl)
    (hw : swapsWith e (some (.Name x p2)) pos.line env = pure false := by rfl) : SX g c env ns (.Assign [.Name x p2] e pos) (setD i f) := by
  intro as lo H s Q E fl lo' H' P q k
  obtain ⟨⟨v, H1⟩, e1, q⟩ := Option.map_eq_some_iff.mp q
  cases q
  refine wpAny_Assign_Name (h1 as lo H s _ _ v H1 P e1 fun as1 u ha tk1 P1 v1 => ?_) hw
  exact store_local fe hi hk (P.step P1) v1 fun h' tk st P2 => k as1 .next h' tk (P1.up.trans st) P2 trivial
theorem SX.assignC {x : Str} {i : Nat} {ca : Addr} {e : Expr} {p2 : Pos} {f : Lo → AH → Option (AV × AH)} (fe : FEnv c env ns) (hi : ns[i]? = some x) (hc : env.cells.lookup x = some ca) (h1 : SE g c env ns e f) (hk : env.kindOf x = some .cell := by rfl)
    (hw : swapsWith e (some (.Name x p2)) pos.line env = pure false := by rfl) : SX g c env ns (.Assign [.Name x p2] e pos) (setD i f) := by
  intro as lo H s Q E fl lo' H' P q k
  obtain ⟨⟨v, H1⟩, e1, q⟩ := Option.map_eq_some_iff.mp q
  cases q
  refine wpAny_Assign_Name (h1 as lo H s _ _ v H1 P e1 fun as1 u ha tk1 P1 v1 => ?_) hw
  exact store_cell fe hi hk hc (P.step P1) v1 fun h' tk st P2 => k as1 .next h' tk (P1.up.trans st) P2 trivial
theorem SX.ret {e : Expr} {f : Lo → AH → Option (AV × AH)} (h1 : SE g c env ns e f) : SX g c env ns (.Return (some e) pos) (retD f) := by
  intro as lo H s Q E fl lo' H' P q k
  obtain ⟨⟨v, H1⟩, e1, q⟩ := Option.map_eq_some_iff.mp q
  cases q
  exact wpAny_Return_some (h1 as lo H s _ _ v H1 P e1 fun as1 u ha tk1 P1 v1 => k as1 (.ret u) ha tk1 P1.up (P.step P1) v1)
theorem SX.expr {e : Expr} {f : Lo → AH → Option (AV × AH)} (h1 : SE g c env ns e f) (hi : interactive env = false := by rfl) (hw : swapsWith e none pos.line env = pure false := by rfl) : SX g c env ns (.Expr e pos) (exprD f) := by
  intro as lo H s Q E fl lo' H' P q k
  obtain ⟨⟨v, H1⟩, e1, q⟩ := Option.map_eq_some_iff.mp q
  cases q
  exact wpAny_Expr_any (h1 as lo H s _ _ v H1 P e1 fun as1 u ha tk1 P1 v1 => k as1 .next ha tk1 P1.up (P.step P1) trivial) hi hw
theorem SX.ite {e : Expr} {st1 st2 : List Stmt} {t : Lo → AH → Option (Bool × AH)} {a b : Den} (ht : ST g c env ns e t) (h1 : SS g c env ns st1 a) (h2 : SS g c env ns st2 b) : SX g c env ns (.If e st1 st2 pos) (iteD t a b) := by
  intro as lo H s Q E fl lo' H' P q k
  obtain ⟨⟨v, H1⟩, e1, q⟩ := Option.bind_eq_some_iff.mp q
  refine wpAny_If (ht as lo H s _ _ v H1 P e1 fun as1 ha tk1 P1 => ?_)
  cases v with
  | true => simp only [if_true] at q ⊢; exact h1 as1 lo H1 _ _ _ fl lo' H' (P.step P1) q fun as2 f h2 tk2 st P2 hf => k as2 f h2 tk2 (P1.up.trans st) P2 hf
  | false => simp only [Bool.false_eq_true, if_false] at q ⊢; exact h2 as1 lo H1 _ _ _ fl lo' H' (P.step P1) q fun as2 f h2 tk2 st P2 hf => k as2 f h2 tk2 (P1.up.trans st) P2 hf
theorem SX.brk : SX g c env ns (.Break pos) (flowD .brk) := fun as lo H s Q E fl lo' H' P q k => by cases q; exact wpAny_Break (k as .brk s.heap s.toks .refl P trivial)
theorem SX.cont : SX g c env ns (.Continue pos) (flowD .cont) := fun as lo H s Q E fl lo' H' P q k => by cases q; exact wpAny_Continue (k as .cont s.heap s.toks .refl P trivial)
theorem SS.nil : SS g c env ns [] doneD := fun as lo H s Q E fl lo' H' P q k => by cases q; exact wpAny_execs_nil (k as .next s.heap s.toks .refl P trivial)
theorem SS.cons {st : Stmt} {sts : List Stmt} {a b : Den} (h1 : SX g c env ns st a) (h2 : SS g c env ns sts b) : SS g c env ns (st :: sts) (seqD a b) := by
  intro as lo H s Q E fl lo' H' P q k
  obtain ⟨⟨f1, lo1, H1⟩, e1, q⟩ := Option.bind_eq_some_iff.mp q
  refine wpAny_execs_cons (h1 as lo H s _ _ f1 lo1 H1 P e1 fun as1 f ha tk1 st1 P1 hf => ?_)
  cases f1 with
  | next =>
    cases f <;> first | exact hf.elim | skip
    exact h2 as1 lo1 H1 _ _ _ fl lo' H' P1 q fun as2 f2 h2 tk2 st2 P2 hf2 => k as2 f2 h2 tk2 (st1.trans st2) P2 hf2
  | brk => cases q; cases f <;> first | exact hf.elim | exact k as1 _ ha tk1 st1 P1 hf
  | cont => cases q; cases f <;> first | exact hf.elim | exact k as1 _ ha tk1 st1 P1 hf
  | ret v => cases q; cases f <;> first | exact hf.elim | exact k as1 _ ha tk1 st1 P1 hf
theorem SS.one {st : Stmt} {a : Den} (h1 : SX g c env ns st a) : SS g c env ns [st] a := by
  intro as lo H s Q E fl lo' H' P q k
  refine wpAny_execs_cons (h1 as lo H s _ _ fl lo' H' P q fun as1 f ha tk1 st1 P1 hf => ?_)
  cases f with
  | next => exact wpAny_execs_nil (k as1 .next ha tk1 st1 P1 hf)
  | brk => exact k as1 _ ha tk1 st1 P1 hf
  | cont => exact k as1 _ ha tk1 st1 P1 hf
  | ret v => exact k as1 _ ha tk1 st1 P1 hf
theorem SX.store {ev eo ei : Expr} {p2 : Pos} {fv fo fi : Lo → AH → Option (AV × AH)} (h1 : SE g c env ns ev fv) (h2 : SE g c env ns eo fo) (h3 : SE g c env ns ei fi) (hw : swapsWith ev (some (.Subscript eo ei p2)) pos.line env = pure false := by rfl) :
    SX g c env ns (.Assign [.Subscript eo ei p2] ev pos) (storeD fv fo fi) := by
  intro as lo H s Q E fl lo' H' P q k
  obtain ⟨⟨v, H1⟩, e1, q⟩ := Option.bind_eq_some_iff.mp q
  obtain ⟨⟨o, H2⟩, e2, q⟩ := Option.bind_eq_some_iff.mp q
  obtain ⟨⟨i, H3⟩, e3, q⟩ := Option.bind_eq_some_iff.mp q
  obtain ⟨H4, e4, q⟩ := Option.map_eq_some_iff.mp q
  cases q
  refine wpAny_Assign_Subscript (h1 as lo H s _ _ v H1 P e1 fun as1 u1 hp1 tk1 P1 v1 => ?_) hw
  refine h2 as1 lo H1 _ _ _ o H2 (P.step P1) e2 fun as2 u2 hp2 tk2 P2 v2 => ?_
  refine h3 as2 lo H2 _ _ _ i H3 ((P.step P1).step P2) e3 fun as3 u3 hp3 tk3 P3 v3 => ?_
  have P0 := (P1.trans P2).trans P3
  exact setItem_ok P3.hr (v2.step P2.hr P3.st) v3 ((v1.step P1.hr P2.st).step P2.hr P3.st) e4 fun h' P4 => k as3 .next h' tk3 (P0.trans P4).up (P.step (P0.trans P4)) trivial
theorem SX.aug {x : Str} {i : Nat} {e : Expr} {p2 : Pos} {op : Operator} {o : AV → AV → AH → Option AV} {f : Lo → AH → Option (AV × AH)} (fe : FEnv c env ns) (hi : ns[i]? = some x) (ho : OpOk g (inplaceOp op) o) (h1 : SE g c env ns e f) (hk : env.kindOf x = some .local := by rfl) :
    SX g c env ns (.AugAssign (.Name x p2) op e pos) (augD i o f) := by
  intro as lo H s Q E fl lo' H' P q k
  obtain ⟨⟨u, H1⟩, e1, q⟩ := Option.bind_eq_some_iff.mp q
  obtain ⟨⟨v, H2⟩, e2, q⟩ := Option.bind_eq_some_iff.mp q
  obtain ⟨z, e3, q⟩ := Option.map_eq_some_iff.mp q
  cases q
  unfold ldD at e1
  split at e1
  · rename_i u' hu
    cases e1
    obtain ⟨hkk, w, hw, qq⟩ := P.lo i x u hi hu
    rcases qq with ⟨_, m, n, hm⟩ | ⟨e, _⟩
    · refine wpAny_AugAssign_Name (wpAny_loadName_local hkk hk n hm ?_)
      refine h1 as lo H s _ _ v H2 P e2 fun as1 a ha tk1 P1 v1 => ?_
      refine ho c.A as1 H2 _ _ _ w a u v z (P.step P1).ok.un P1.hr (hw.step P.hr P1.st) v1 e3 fun r h2 tk2 P2 v2 => ?_
      exact store_local fe hi hk ((P.step P1).step P2) v2 fun h' tk st P3 => k as1 .next h' tk ((P1.trans P2).up.trans st) P3 trivial
    · rw [hk] at e; cases e
  · cases e1
theorem op_icat : OpOk g (inplaceOp .Add) (strs2 fun a b => if a.length + b.length ≤ 100000 then some (a ++ b) else none) := by
  intro A as H s Q E a b x y z hu hr ha hb e k
  unfold strs2 at e
  split at e
  · obtain ⟨r, e', rfl⟩ := Option.map_eq_some_iff.mp e
    clear e
    dsimp only at e'
    split at e'
    · rename_i hl
      cases e'
      obtain ⟨o1, t, rfl⟩ := ha.unstr
      obtain ⟨o2, u, rfl⟩ := hb.unstr
      exact PyProof.Rows.iadd_str (fun t' tk => k _ s.heap tk (.refl hr) (.str _ _ (strOk_append o1 o2))) (by rw [sizeLine_eq]; omega)
    · cases e'
  · cases e
theorem SX.while {e : Expr} {st : List Stmt} {t : Lo → AH → Option (Bool × AH)} {b : Den} (n : Nat) (ht : ST g c env ns e t) (h1 : SS g c env ns st b) : SX g c env ns (.While e st [] pos) (whileD t b n) := by
  intro as lo H s Q E fl lo' H' P q k
  refine wpAny_mono (E := fun _ _ => False) ?_ (fun _ _ x => x) fun _ _ x => x.elim
  refine wpAny_While (codeAny_whileLoop (fun n s' => ∃ as1 lo1 H1 h1 tk1, s' = { s with heap := h1, toks := tk1 } ∧ Stp (Us c env) as s.heap as1 h1 ∧ Pre g c env ns as1 lo1 H1 h1 ∧ whileD t b n lo1 H1 = some (fl, lo', H')) ?_ n ⟨as, lo, H, s.heap, s.toks, rfl, .refl, P, q⟩)
  rintro n s' ⟨as1, lo1, H1, hp1, tk1, rfl, st1, P1, q⟩
  cases n with
  | zero => cases q
  | succ n =>
    obtain ⟨⟨v, H2⟩, e1, q⟩ := Option.bind_eq_some_iff.mp q
    refine ht as1 lo1 H1 _ _ _ v H2 P1 e1 fun as2 hp2 tk2 P2 => ?_
    cases v with
    | false =>
      simp only [Bool.false_eq_true, if_false] at q ⊢
      cases q
      exact wpAny_execs_nil (k as2 .next hp2 tk2 (st1.trans P2.up) (P1.step P2) trivial)
    | true =>
      simp only [if_true] at q ⊢
      obtain ⟨⟨f1, lo3, H3⟩, e2, q⟩ := Option.bind_eq_some_iff.mp q
      refine h1 as2 lo1 H2 _ _ _ f1 lo3 H3 (P1.step P2) e2 fun as3 f hp3 tk3 st3 P3 hf => ?_
      have st4 := (st1.trans P2.up).trans st3
      cases f1 with
      | next => cases f <;> first | exact hf.elim | exact ⟨n, Nat.lt_succ_self n, as3, lo3, H3, hp3, tk3, rfl, st4, P3, q⟩
      | cont => cases f <;> first | exact hf.elim | exact ⟨n, Nat.lt_succ_self n, as3, lo3, H3, hp3, tk3, rfl, st4, P3, q⟩
      | brk => cases q; cases f <;> first | exact hf.elim | exact k as3 .next hp3 tk3 st4 P3 trivial
      | ret v => cases q; cases f <;> first | exact hf.elim | exact k as3 _ hp3 tk3 st4 P3 hf
end
/-- a def's contract: d frames of room, hn: no exception is being handled -/
noncomputable def CF (g : Gx) (x : Str) (d : Nat) (hn : Bool) (F : List AV → AH → Option (AV × AH)) : Prop :=
  ∀ (a : Addr) (c : Cx) (as : List Addr) (H : AH) (s : Shared) (Q E : Value → Shared → Prop) (vs : List Value) (xs : List AV) (z : AV) (H' : AH), g.mg x = some (.ref a) → Ok g c as s.heap → d ≤ c.lv → (hn = true → c.A.handled = none) →
    HR as H s.heap → VRs s.heap as vs xs → F xs H = some (z, H') →
    (∀ as' v h' tk, Post as s.heap as' H' h' → VR h' as' v z → Q v { s with heap := h', toks := tk }) → wpAny g.M c.A (call (.ref a) vs) Q E s
/-- statements run from a state whose tokens have begun -/
noncomputable def SSt (g : Gx) (c : Cx) (env : Env) (ns : List Str) (st : List Stmt) (G : Den) : Prop :=
  ∀ (as : List Addr) (lo : Lo) (H : AH) (s : Shared) (Q : Flow → Shared → Prop) (E : Value → Shared → Prop) (fl : AF) (lo' : Lo) (H' : AH), 0 < s.toks → Pre g c env ns as lo H s.heap → G lo H = some (fl, lo', H') →
    (∀ as' f h' tk, Stp (Us c env) as s.heap as' h' → Pre g c env ns as' lo' H' h' → FR h' as' f fl → Q f { s with heap := h', toks := tk }) → wpAny g.M c.A (execs st env) Q E s
theorem SS.toT {g : Gx} {c : Cx} {env : Env} {ns : List Str} {st : List Stmt} {G : Den} (h : SS g c env ns st G) : SSt g c env ns st G := fun as lo H s Q E fl lo' H' _ P q k => h as lo H s Q E fl lo' H' P q k
noncomputable def endD (r : AF × Lo × AH) : Option (AV × AH) := match r.1 with
  | .ret v => some (v, r.2.2)
  | .next => some (.d .none, r.2.2)
  | _ => none
noncomputable def bodyD (n k : Nat) (G : Den) (xs : List AV) (H : AH) : Option (AV × AH) := if xs.length = n then (G (xs.map some ++ List.replicate k none) H).bind endD else none

section
variable {g : Gx} {c : Cx} {env : Env} {ns : List Str} {pos : Pos} {as as' : List Addr} {lo : Lo} {H H' : AH} {h h' : Heap}

theorem Ok.fn (k : Ok g c as h) {d : DefRec} (hd : d ∈ recsOf g.p) : ∃ a o pm code doc, g.mg d.name = some (.ref a) ∧ h.get? a = some o ∧ o.data = .func (docDef d.name d.params d.body d.scope pm code doc) ∧ h.CodeRec code d.name := by
  obtain ⟨m, F⟩ := k.F
  obtain ⟨a, o, pm, code, doc, h1, h2, h3, h4⟩ := k.T.fn d hd
  exact ⟨a, o, pm, code, doc, h1, F.keep _ _ h2, h3, h4.keeps F.keep⟩
theorem exists_news {h₀ : Heap} {L : Addr} (hs : ∀ a ∈ as, (∃ o, h.get? a = some o) ∧ a ≠ L ∧ h₀.get? a = none) : ∃ news : List (Addr × Obj), news.map (·.1) = as ∧ News h₀ L h news := by
  induction as with
  | nil => exact ⟨[], rfl, .nil⟩
  | cons a l ih =>
    obtain ⟨news, e, N⟩ := ih fun b hb => hs b (.tail _ hb)
    obtain ⟨⟨o, ho⟩, h1, h2⟩ := hs a (.head _)
    exact ⟨(a, o) :: news, by simp [e], fun p hp => by
      rcases List.mem_cons.mp hp with rfl | hp
      · exact ⟨ho, h1, h2⟩
      · exact N p hp⟩
theorem Ok.news (k : Ok g c as h) (hr : HR as H h) : ∃ news : List (Addr × Obj), news.map (·.1) = as ∧ News c.h₀ c.L h news := by
  obtain ⟨m, F⟩ := k.F
  obtain ⟨oL, _, _, hoL, hdL, _⟩ := F.ns
  refine exists_news fun a ha => ⟨?_, fun z => ?_, k.nw a ha⟩
  · obtain ⟨vs, n, e⟩ := hr.seq ha; exact ⟨_, e⟩
  · obtain ⟨vs, n, e⟩ := hr.seq ha
    rw [z, hoL] at e; cases e; cases hdL
theorem lookup_zip {ps : List Str} {vs : List Value} (hn : ps.Nodup) {i : Nat} {x : Str} {v : Value} (h1 : ps[i]? = some x) (h2 : vs[i]? = some v) : (ps.zip vs).lookup x = some v := by
  induction ps generalizing vs i with
  | nil => cases h1
  | cons p ps ih =>
    cases vs with
    | nil => cases h2
    | cons u vs =>
      rw [List.zip_cons_cons, List.lookup_cons]
      cases i with
      | zero => cases h1; cases h2; simp
      | succ i =>
        simp only [List.nodup_cons] at hn
        have ne : x ≠ p := by rintro rfl; exact hn.1 (List.mem_of_getElem? h1)
        rw [show (x == p) = false from beq_eq_false_iff_ne.mpr ne]
        exact ih hn.2 h1 h2
theorem lookup_some_mem {l : List (Str × Value)} {x : Str} {v : Value} (e : l.lookup x = some v) : (x, v) ∈ l := by
  induction l with
  | nil => cases e
  | cons p l ih =>
    obtain ⟨p1, p2⟩ := p
    rw [List.lookup_cons] at e
    split at e
    · rename_i h; cases e; rw [eq_of_beq h]; exact .head _
    · exact .tail _ (ih e)
theorem mem_lookup {l : List (Str × Value)} (hn : (l.map (·.1)).Nodup) {x : Str} {v : Value} (e : (x, v) ∈ l) : l.lookup x = some v := by
  induction l with
  | nil => cases e
  | cons p l ih =>
    obtain ⟨p1, p2⟩ := p
    simp only [List.map_cons, List.nodup_cons] at hn
    rw [List.lookup_cons]
    rcases List.mem_cons.mp e with e' | e'
    · cases e'; simp
    · have ne : x ≠ p1 := by rintro rfl; exact hn.1 (List.mem_map_of_mem (f := fun q : Str × Value => q.1) e')
      rw [show (x == p1) = false from beq_eq_false_iff_ne.mpr ne]
      exact ih hn.2 e'
theorem lookup_rev {l : List (Str × Value)} (hn : (l.map (·.1)).Nodup) {x : Str} {v : Value} (e : l.lookup x = some v) : l.reverse.lookup x = some v :=
  mem_lookup (by rw [List.map_reverse]; unfold List.Nodup; rw [List.pairwise_reverse]; exact hn.imp Ne.symm) (List.mem_reverse.mpr (lookup_some_mem e))
theorem VRs.len {vs : List Value} {xs : List AV} (r : VRs h as vs xs) : vs.length = xs.length := by
  induction r with
  | nil => rfl
  | cons _ _ ih => simp [ih]
theorem VRs.get {vs : List Value} {xs : List AV} (r : VRs h as vs xs) {i : Nat} {x : AV} (e : xs[i]? = some x) : ∃ v, vs[i]? = some v ∧ VR h as v x := by
  induction r generalizing i with
  | nil => cases e
  | cons a _ ih =>
    cases i with
    | zero => cases e; exact ⟨_, rfl, a⟩
    | succ i => exact ih e

/-- what the caller gets back -/
theorem post_back {f₀ : Heap} {L' : Addr} {m : Str → Option Value} (hr : HR as H h) (hr' : HR as' H' h') (hp : as <+: as') (hg : ∀ b o, h.get? b = some o → b ∉ as → f₀.get? b = some o) (F : Fr f₀ L' h' m) (hw : ∀ a ∈ as', f₀.get? a = none) : Post as h as' H' h' := by
  refine ⟨⟨hp, fun a ha hn => ?_, fun b o e n _ => F.keep b o (hg b o e n), fun b o e => ?_⟩, hr'⟩
  · cases e : h.get? a with
    | none => rfl
    | some o => have := hg a o e hn; rw [hw a ha] at this; cases this
  · by_cases hb : b ∈ as
    · obtain ⟨vs, n, e'⟩ := hr'.seq (hp.subset hb); exact ⟨_, e'⟩
    · exact ⟨o, F.keep b o (hg b o e hb)⟩

theorem CF.of_bodyT {d : DefRec} {ps ns : List Str} {k n : Nat} {hn : Bool} {G : Den} (hd : d ∈ recsOf g.p) (hb : ∀ (vs : List Value) (pm cd doc : Value), vs.length = ps.length → bindArgs (docDef d.name d.params d.body d.scope pm cd doc) ⟨vs, []⟩ = pure (ps.zip vs))
    (hp : ∀ y ∈ ps, d.scope.names.lookup y = some .local) (hc : ∀ x ∈ d.scope.names, x.2 ≠ .cell) (hns : ns.Nodup) (hpre : ps <+: ns)
    (hco : d.scope.isCoroutine = false) (hgen : d.scope.isGenerator = false) (hk : d.scope.kind = .function)
    (hps : 0 < ps.length)
    (hG : ∀ (c : Cx) (a L : Addr) (cd : Value), n ≤ c.lv → (hn = true → c.A.handled = none) → FEnv c (envOf d.name d.scope L a cd) ns → SSt g c (envOf d.name d.scope L a cd) ns d.body G) : CF g d.name (n + 1) hn (bodyD ps.length k G) := by
  intro a c as H s Q E vs xs z H' hx K0 hlv hh hr hv e q
  unfold bodyD at e
  split at e
  case isFalse => cases e
  rename_i hlenx
  obtain ⟨⟨fl, lo', H1⟩, e1, e2⟩ := Option.bind_eq_some_iff.mp e
  obtain ⟨m, F⟩ := K0.F
  obtain ⟨a', o, pm, code, doc, h1, h2, h3, h4⟩ := K0.fn hd
  rw [hx] at h1; cases h1
  obtain ⟨news, hnm, N⟩ := K0.news hr
  obtain ⟨FG, BG, st, _⟩ := groundX (R := fun _ _ => True) K0.B F N K0.fr K0.ff K0.fk
  rw [hnm] at FG BG st
  have hvl : vs.length = ps.length := by rw [hv.len, hlenx]
  have hpn : ps.Nodup := List.Nodup.sublist hpre.sublist hns
  have hzn : ((ps.zip vs).map (·.1)).Nodup := by rw [List.map_fst_zip (by omega)]; exact hpn
  refine wpAny_call (codeAny_call_def (fd := docDef d.name d.params d.body d.scope pm code doc) (body := d.body) (binds := ps.zip vs) (by have := K0.room; omega) h2 h3 (K0.T.nolimit.keeps F.keep) h4 rfl (.of_eq (hb vs pm code doc hvl)) hc (fun y hy => hp _ (List.of_mem_zip hy).1) (fun h₁ hN hkeep => ?_) hco hgen hk)
  show wpAny g.M (c.A.deeper (envOf d.name d.scope s.heap.objs.size a code)) (execs d.body (envOf d.name d.scope s.heap.objs.size a code)) _ _ _
  have st0 : Stp [] as s.heap as h₁ := ⟨List.prefix_refl _, fun _ h1 h2 => absurd h1 h2, fun b o e _ _ => hkeep b o e, fun b o e => ⟨o, hkeep b o e⟩⟩
  have hr1 : HR as H h₁ := hr.step st0.to0 fun a _ o e => hkeep a o e
  have hgs : ∀ b o, s.heap.get? b = some o → b ∉ as → (hideAll s.heap as).get? b = some o := fun b o e n => hideAll_get _ e n
  have hgn : ∀ a ∈ as, (hideAll s.heap as).get? a = none := fun a ha => hideAll_none _ ha
  have F1 : Fr (hideAll s.heap as) s.heap.objs.size h₁ (fun y => (ps.zip vs).reverse.lookup y) := ⟨hN, fun b o e => hkeep b o (of_hideAll _ e), Nat.le_of_eq (hideAll_size _ _)⟩
  have hlo : LO (envOf d.name d.scope s.heap.objs.size a code) ns (xs.map some ++ List.replicate k none) as h₁ := by
    intro i x v e1 e2
    by_cases hi : i < xs.length
    · rw [List.getElem?_append_left (by simpa using hi), List.getElem?_map] at e2
      obtain ⟨y, e3, e4⟩ := Option.map_eq_some_iff.mp e2
      cases e4
      obtain ⟨u, e5, r⟩ := hv.get e3
      have e6 : ps[i]? = some x := by
        obtain ⟨t, ht⟩ := hpre
        rw [← ht, List.getElem?_append_left (by omega)] at e1; exact e1
      exact ⟨hk, u, r.step hr st0, .inl ⟨hp x (List.mem_of_getElem? e6), _, hN, lookup_rev hzn (lookup_zip hpn e6 e5)⟩⟩
    · rw [List.getElem?_append_right (by simpa using hi)] at e2
      have := List.mem_of_getElem? e2
      rw [List.mem_replicate] at this
      cases this.2
  let c' : Cx := ⟨c.A.deeper (envOf d.name d.scope s.heap.objs.size a code), envOf d.name d.scope s.heap.objs.size a code, c.fenv :: c.outer, c.A, c.base, hideAll s.heap as, s.heap.objs.size, c.lv - 1⟩
  have K1 : Ok g c' as h₁ := ⟨BG, K0.T.keeps st, K0.Tb, Around.frames_deeper K0.fr, rfl, hk, by show c.A.depth + 1 + (c.lv - 1) < _; have := K0.room; omega, by show c.A.units + 3 + 200 + 10 * (c.lv - 1) < _; have := K0.units; omega, ⟨_, F1⟩, hgn⟩
  refine hG c' a s.heap.objs.size code (by show n ≤ c.lv - 1; omega) hh ⟨⟨rfl, rfl, hk⟩, rfl, rfl, hns, .nil⟩ as _ H { s with heap := h₁, toks := s.toks + (ps.zip vs).length } _ _ fl lo' H1 (by show 0 < s.toks + (ps.zip vs).length; rw [List.length_zip]; omega) ⟨K1, hlo, hr1, fun _ h => (nomatch h)⟩ e1 fun as2 f h2 tk2 st2 P2 hf => ?_
  obtain ⟨m2, F2⟩ := P2.ok.F
  have P3 : Post as s.heap as2 H1 h2 := post_back hr P2.hr st2.pre hgs F2 P2.ok.nw
  unfold endD at e2
  cases fl with
  | ret v =>
    cases e2
    cases f <;> first | exact hf.elim | exact q as2 _ h2 tk2 P3 hf
  | next =>
    cases e2
    cases f <;> first | exact hf.elim | exact q as2 _ h2 tk2 P3 .none
  | brk => cases e2
  | cont => cases e2

theorem CF.of_body {d : DefRec} {ps ns : List Str} {k n : Nat} {hn : Bool} {G : Den} (hd : d ∈ recsOf g.p) (hb : ∀ (vs : List Value) (pm cd doc : Value), vs.length = ps.length → bindArgs (docDef d.name d.params d.body d.scope pm cd doc) ⟨vs, []⟩ = pure (ps.zip vs))
    (hp : ∀ y ∈ ps, d.scope.names.lookup y = some .local) (hc : ∀ x ∈ d.scope.names, x.2 ≠ .cell) (hns : ns.Nodup) (hpre : ps <+: ns)
    (hco : d.scope.isCoroutine = false) (hgen : d.scope.isGenerator = false) (hk : d.scope.kind = .function)
    (hG : ∀ (c : Cx) (a L : Addr) (cd : Value), n ≤ c.lv → (hn = true → c.A.handled = none) → FEnv c (envOf d.name d.scope L a cd) ns → SS g c (envOf d.name d.scope L a cd) ns d.body G) (hps : 0 < ps.length := by decide) : CF g d.name (n + 1) hn (bodyD ps.length k G) :=
  CF.of_bodyT hd hb hp hc hns hpre hco hgen hk hps fun c a L cd h1 h2 h3 => (hG c a L cd h1 h2 h3).toT

/-- a call of a def by its name -/
theorem SE.call {x : Str} {d : Nat} {hn : Bool} {e : Expr} {es : List Expr} {p2 : Pos} {F : List AV → AH → Option (AV × AH)} {fs : Lo → AH → Option (List AV × AH)} {dr : DefRec} (hf : CF g x d hn F) (hd : dr ∈ recsOf g.p) (hx : dr.name = x) (hlv : d ≤ c.lv) (hh : hn = true → c.A.handled = none) (he : EnvOk env) (hs : SEs g c env ns (e :: es) fs)
    (hk : env.kindOf x = some .globalImplicit := by rfl) (hdb : (x == ("__debug__" : Str)) = false := by decide) (h1 : starEach (e :: es) env = (false, eval e env) :: starEach es env := by rfl)
    (h3 : eval (.Call (.Name x p2) (e :: es) [] pos) env = (do callWith pos (← eval (.Name x p2) env) [] (backTo pos (starEach (e :: es) env)) (backToKw pos (keywordEach [] env))) := by rfl) :
    SE g c env ns (.Call (.Name x p2) (e :: es) [] pos) (callD F fs) := by
  intro as lo H s Q E v H' P q k
  unfold callD at q
  obtain ⟨⟨xs, H1⟩, e1, q⟩ := Option.bind_eq_some_iff.mp q
  obtain ⟨a, o, pm, code, doc, g1, g2, g3, g4⟩ := P.ok.fn hd
  rw [hx] at g1
  refine Call_ (eval_GK P.ok he g1 (callWith_def_at g2 g3 (hs pos as lo H s _ _ xs H1 P e1 fun as1 vs ha tk1 P1 v1 => ⟨?_, ?_⟩) h1) hk hdb) h3
  · have ho : seqy o = false := by unfold seqy; rw [g3]
    exact P1.st.keep a o g2 (P.hr.notDict g2 ho) fun z => (nomatch z)
  · exact hf a c as1 H1 _ _ _ vs xs v H' g1 (P.step P1).ok hlv hh P1.hr v1 q fun as2 u hb tk2 P2 v2 => k as2 u hb tk2 (P1.trans P2) v2
end
/-- the object is neither a seq nor a name table nor a cell -/
noncomputable def iterish (o : Obj) : Bool := match o.data with | .fields _ => true | _ => false

/-- what a loop runs over: the data, and the tracked list that bears it, if one does -/
abbrev Src := List PyData × Option Nat
noncomputable def okG (src : Src) (H : AH) : Prop := ∀ i, src.2 = some i → H[i]? = some src.1
noncomputable def guardD {α : Type} (src : Src) (H : AH) (x : Option α) : Option α := match src.2 with
  | none => x
  | some i => open Classical in if H[i]? = some src.1 then x else none
theorem guardD_eq {α : Type} {src : Src} {H : AH} {x : Option α} {y : α} (e : guardD src H x = some y) : x = some y ∧ okG src H := by
  obtain ⟨l, gi⟩ := src
  cases gi with
  | none => exact ⟨e, fun i h => by cases h⟩
  | some i =>
    have e' : (open Classical in if H[i]? = some l then x else none) = some y := e
    split at e'
    · rename_i h; exact ⟨e', fun j hj => by cases hj; exact h⟩
    · cases e'

/-- an iterator over data -/
structure Itr (g : Gx) (A : Around) (as : List Addr) (H : AH) (h : Heap) (I : Addr) (src : Src) (St : Nat → List Addr → AH → Heap → Prop) : Prop where
  st : St 0 as H h
  ok : okG src H
  self : ∃ o, h.get? I = some o ∧ iterish o = true
  nseq : ∀ i as1 H1 h1, St i as1 H1 h1 → ∃ o, h1.get? I = some o ∧ seqy o = false
  own : ∀ i as1 H1 h1, St i as1 H1 h1 → ∃ o n, h1.get? I = some o ∧ o.cls = .type n ∧ (["enumerate", "zip", "dict_itemiterator", "dict_reverseitemiterator", "odict_iterator", "itertools.zip_longest", "itertools.pairwise"].contains n) = false
  item : ∀ (j : Nat) (as1 : List Addr) (H1 : AH) (s : Shared) (Q : Option Value → Shared → Prop) (E : Value → Shared → Prop), j < src.1.length → HR as1 H1 s.heap → I ∉ as1 → St j as1 H1 s.heap →
    (∀ v h' tk d, src.1[j]? = some d → VR s.heap as1 v (.d d) → St (j + 1) as1 H1 h' → (∀ b o, b ∉ [I] → s.heap.get? b = some o → h'.get? b = some o) → Q (some v) { s with heap := h', toks := tk }) → wpAny g.M A (pyNext (.ref I)) Q E s
  done : ∀ (as1 : List Addr) (H1 : AH) (s : Shared) (Q : Option Value → Shared → Prop) (E : Value → Shared → Prop), HR as1 H1 s.heap → St src.1.length as1 H1 s.heap →
    (∀ h' tk, (∀ b o, b ∉ [I] → s.heap.get? b = some o → h'.get? b = some o) → Q none { s with heap := h', toks := tk }) → wpAny g.M A (pyNext (.ref I)) Q E s
  again : ∀ (i : Nat) (as1 : List Addr) (H1 : AH) (s : Shared) (Q : Value → Shared → Prop) (E : Value → Shared → Prop), St i as1 H1 s.heap → Q (.ref I) s → wpAny g.M A (pyIter (.ref I)) Q E s
  frame : ∀ (i : Nat) (as1 : List Addr) (H1 : AH) (h1 : Heap) (as2 : List Addr) (H2 : AH) (h2 : Heap) (U : List Addr), St i as1 H1 h1 → HR as1 H1 h1 → HR as2 H2 h2 → I ∉ U → I ∉ as1 → Stp U as1 h1 as2 h2 → okG src H2 → St i as2 H2 h2

/-- an expression in a for's head -/
noncomputable def SIt (g : Gx) (c : Cx) (env : Env) (ns : List Str) (e : Expr) (f : Lo → AH → Option (Src × AH)) : Prop :=
  ∀ (as : List Addr) (lo : Lo) (H : AH) (s : Shared) (Q E : Value → Shared → Prop) (src : Src) (H' : AH), c.A.handled = none → Pre g c env ns as lo H s.heap → f lo H = some (src, H') →
    (∀ as' I h' tk St, Post as s.heap as' H' h' → s.heap.get? I = none → Itr g c.A as' H' h' I src St → Q (.ref I) { s with heap := h', toks := tk }) →
    wpAny g.M c.A (eval e env) (fun x s₁ => wpAny g.M c.A (pyIter x) Q E s₁) E s

noncomputable def loopD (i : Nat) (b : Den) (src : Src) : List PyData → Den
  | [], lo, H => some (.next, lo, H)
  | d :: r, lo, H => (b (lo.set i (some (.d d))) H).bind fun q => match q.1 with
      | .next => guardD src q.2.2 (loopD i b src r q.2.1 q.2.2)
      | .cont => guardD src q.2.2 (loopD i b src r q.2.1 q.2.2)
      | .brk => some (.next, q.2)
      | .ret v => some (.ret v, q.2)
noncomputable def forD (i : Nat) (f : Lo → AH → Option (Src × AH)) (b : Den) (lo : Lo) (H : AH) : Option (AF × Lo × AH) := (f lo H).bind fun p => loopD i b p.1 p.1.1 lo p.2

section
variable {g : Gx} {c : Cx} {env : Env} {ns : List Str} {pos : Pos} {as as' : List Addr} {lo : Lo} {H H' : AH} {h h' : Heap}

/-- the target of a for: a name of the frame's, stored -/
noncomputable def Tgt (g : Gx) (c : Cx) (env : Env) (ns : List Str) (t : Expr) (i : Nat) : Prop :=
  (∀ it v, letOwnedTupleGo t it v = pure ()) ∧ ∀ (as : List Addr) (lo : Lo) (H : AH) (s : Shared) (Q : Unit → Shared → Prop) (E : Value → Shared → Prop) (v : Value) (x : AV), Pre g c env ns as lo H s.heap → VR s.heap as v x →
    (∀ h' tk, Stp (Us c env) as s.heap as h' → Pre g c env ns as (lo.set i (some x)) H h' → Q () { s with heap := h', toks := tk }) → wpAny g.M c.A (assign t env v) Q E s
theorem Tgt.local {x : Str} {i : Nat} {p2 : Pos} (fe : FEnv c env ns) (hi : ns[i]? = some x) (hk : env.kindOf x = some .local := by rfl) : Tgt g c env ns (.Name x p2) i :=
  ⟨fun _ _ => rfl, fun as lo H s Q E v x P hv k => wpAny_assign_Name (store_local fe hi hk P hv k)⟩
theorem Tgt.cell {x : Str} {i : Nat} {p2 : Pos} {ca : Addr} (fe : FEnv c env ns) (hi : ns[i]? = some x) (hc : env.cells.lookup x = some ca) (hk : env.kindOf x = some .cell := by rfl) : Tgt g c env ns (.Name x p2) i :=
  ⟨fun _ _ => rfl, fun as lo H s Q E v x P hv k => wpAny_assign_Name (store_cell fe hi hk hc P hv k)⟩

theorem Itr.notUs {I : Addr} {src : Src} {St : Nat → List Addr → AH → Heap → Prop} (t : Itr g c.A as H' h I src St) (q : Pre g c env ns as lo H h) : I ∉ Us c env := by
  obtain ⟨o, ho, hi⟩ := t.self
  intro hm
  rcases List.mem_cons.mp hm with rfl | hm
  · obtain ⟨m, F⟩ := q.ok.F
    obtain ⟨o', _, _, ho', hd, _⟩ := F.ns
    rw [ho] at ho'; cases ho'
    unfold iterish at hi; rw [hd] at hi; cases hi
  · obtain ⟨p, hp, rfl⟩ := List.mem_map.mp hm
    obtain ⟨_, w, o', ho', hd⟩ := q.cl p hp
    rw [ho] at ho'; cases ho'
    unfold iterish at hi; rw [hd] at hi; cases hi
theorem Itr.notAs {I : Addr} {src : Src} {St : Nat → List Addr → AH → Heap → Prop} (t : Itr g c.A as H' h I src St) (hr : HR as H h) : I ∉ as := by
  obtain ⟨o, ho, hi⟩ := t.self
  refine hr.notDict ho ?_
  unfold iterish at hi; unfold seqy
  split at hi
  · rename_i e; rw [e]
  · cases hi

theorem SX.for {t iter : Expr} {st : List Stmt} {i : Nat} {f : Lo → AH → Option (Src × AH)} {b : Den} (hh : c.A.handled = none) (fe : FEnv c env ns) (ht : Tgt g c env ns t i) (hi : SIt g c env ns iter f) (hb : SS g c env ns st b)
    (hs : ∀ x, foldedSetIterable iter env x = pure x := by intro _; rfl) : SX g c env ns (.For t iter st [] pos) (forD i f b) := by
  intro as lo H s Q E fl lo' H' P q k
  obtain ⟨⟨src, H1⟩, e1, q⟩ := Option.bind_eq_some_iff.mp q
  refine wpAny_mono (E := fun _ _ => False) ?_ (fun _ _ x => x) fun _ _ x => x.elim
  refine wpAny_For (hi as lo H s _ _ src H1 hh P e1 fun as0 I h0 tk0 Sv P0 hIn T => ?_) hs
  have Q0 := P.step P0
  have nUs := T.notUs Q0
  have nAs := T.notAs P0.hr
  have hI0 : c.h₀.get? I = none := by
    cases e : c.h₀.get? I with
    | none => rfl
    | some o => obtain ⟨m, F⟩ := P.ok.F; have := F.keep I o e; rw [hIn] at this; cases this
  have neL : c.L ≠ I := fun z => nUs (z ▸ .head _)
  have ofI : Off c env [I] := ⟨fun z => neL (List.mem_singleton.mp z), fun z => neL (fe.loc ▸ List.mem_singleton.mp z), fun p hp z => nUs (List.mem_singleton.mp z ▸ .tail _ (List.mem_map_of_mem (f := fun q : Str × Addr => q.2) hp)), fun b z => by rw [List.mem_singleton.mp z]; exact hI0⟩
  refine codeAny_forLoop (fun n s' => ∃ j as1 lo1 H1' h1 tk1, s' = { s with heap := h1, toks := tk1 } ∧ n + j = src.1.length + 1 ∧ j ≤ src.1.length ∧ Stp (I :: Us c env) as0 h0 as1 h1 ∧ Pre g c env ns as1 lo1 H1' h1 ∧ Sv j as1 H1' h1 ∧ loopD i b src (src.1.drop j) lo1 H1' = some (fl, lo', H')) ?_ (src.1.length + 1) ⟨0, as0, lo, H1, h0, tk0, rfl, rfl, Nat.zero_le _, .refl, Q0, T.st, q⟩ (ht.1 _)
  rintro n s' ⟨j, as1, lo1, H2, h1, tk1, rfl, hn, hj, st1, P1, S1, q⟩
  have drop0 : ∀ {as2 h2}, Stp (I :: Us c env) as0 h0 as2 h2 → Stp (Us c env) as s.heap as2 h2 := fun {as2 h2} st => by
    refine ⟨P0.st.pre.trans st.pre, fun a ha hn' => ?_, fun b o e n u => ?_, fun b o e => ?_⟩
    · by_cases hm : a ∈ as0
      · exact P0.st.new a hm hn'
      · have q := st.new a ha hm
        cases e : s.heap.get? a with
        | none => rfl
        | some o => obtain ⟨o', e'⟩ := P0.st.dom a o e; rw [q] at e'; cases e'
    · refine st.keep b o (P0.st.keep b o e n fun z => (nomatch z)) (P0.st.out e n) fun z => ?_
      rcases List.mem_cons.mp z with rfl | z
      · rw [hIn] at e; cases e
      · exact u z
    · obtain ⟨o', e'⟩ := P0.st.dom b o e; exact st.dom b o' e'
  have fin : ∀ {as2 lo2 H3 h2 tk2 f2 g2}, Stp (I :: Us c env) as0 h0 as2 h2 → Pre g c env ns as2 lo2 H3 h2 → FR h2 as2 f2 g2 → (g2, lo2, H3) = (fl, lo', H') → Q f2 { s with heap := h2, toks := tk2 } := fun {as2 lo2 H3 h2 tk2 f2 g2} st P2 hf e => by
    cases e
    exact k as2 f2 h2 tk2 (drop0 st) P2 hf
  have nAs1 : I ∉ as1 := by obtain ⟨o, ho, _⟩ := T.self; exact st1.out ho nAs
  by_cases hlt : j < src.1.length
  · refine T.item j as1 H2 _ _ _ hlt P1.hr nAs1 S1 fun v h2 tk2 d hd rv S2 hk2 => ?_
    obtain ⟨oI, hoI, hsI⟩ := T.nseq (j + 1) as1 H2 h2 S2
    have st2 : Stp [I] as1 h1 as1 h2 := ⟨List.prefix_refl _, fun _ a1 a2 => absurd a1 a2, fun b o e n u => by
      by_cases hb : b = I
      · subst hb; obtain ⟨o', ho', hi'⟩ := T.nseq j as1 H2 h1 S1
        rw [e] at ho'; cases ho'; rw [u (.head _)] at hi'; cases hi'
      · exact hk2 b o (fun z => hb (List.mem_singleton.mp z)) e, fun b o e => by
      by_cases hb : b = I
      · subst hb; exact ⟨oI, hoI⟩
      · exact ⟨o, hk2 b o (fun z => hb (List.mem_singleton.mp z)) e⟩⟩
    have hr2 : HR as1 H2 h2 := P1.hr.step st2.to0 fun a ha o e => hk2 a o (fun z => nAs1 (List.mem_singleton.mp z ▸ ha)) e
    have P2 : Pre g c env ns as1 lo1 H2 h2 := P1.stepU st2.to0 hr2 ofI
    have st12 : Stp (I :: Us c env) as0 h0 as1 h2 := st1.trans (st2.weaken fun x hx => by rw [List.mem_singleton.mp hx]; exact .head _)
    have ed : src.1.drop j = d :: src.1.drop (j + 1) := by
      obtain ⟨_, e⟩ := List.getElem?_eq_some_iff.mp hd
      rw [← e]; exact List.drop_eq_getElem_cons hlt
    rw [ed] at q
    obtain ⟨⟨f1, lo3, H3⟩, e2, q⟩ := Option.bind_eq_some_iff.mp q
    refine ht.2 as1 lo1 H2 _ _ _ v (.d d) P2 (rv.step P1.hr st2) fun h3 tk3 st3 P3 => ?_
    refine hb as1 _ H2 _ _ _ f1 lo3 H3 P3 e2 fun as4 f h4 tk4 st4 P4 hf => ?_
    have stB : Stp (Us c env) as1 h2 as4 h4 := st3.trans st4
    have st5 : Stp (I :: Us c env) as0 h0 as4 h4 := st12.trans (stB.weaken fun x hx => .tail _ hx)
    cases f1 with
    | next =>
      obtain ⟨q, og⟩ := guardD_eq q
      cases f <;> first | exact hf.elim | exact ⟨n - 1, by omega, j + 1, as4, lo3, H3, h4, tk4, rfl, by omega, by omega, st5, P4, T.frame _ _ _ _ _ _ _ _ S2 hr2 P4.hr nUs nAs1 stB og, q⟩
    | cont =>
      obtain ⟨q, og⟩ := guardD_eq q
      cases f <;> first | exact hf.elim | exact ⟨n - 1, by omega, j + 1, as4, lo3, H3, h4, tk4, rfl, by omega, by omega, st5, P4, T.frame _ _ _ _ _ _ _ _ S2 hr2 P4.hr nUs nAs1 stB og, q⟩
    | brk => cases f <;> first | exact hf.elim | exact fin (f2 := .next) (g2 := .next) st5 P4 trivial (Option.some.inj q)
    | ret v => cases f <;> first | exact hf.elim | exact fin st5 P4 hf (Option.some.inj q)
  · have hj' : j = src.1.length := by omega
    subst hj'
    rw [List.drop_length] at q
    refine T.done as1 H2 _ _ _ P1.hr S1 fun h2 tk2 hk2 => ?_
    have st : Stp0 [I] as1 h1 as1 h2 := ⟨List.prefix_refl _, fun _ a1 a2 => absurd a1 a2, fun b o e n u => by
      by_cases hb : b = I
      · subst hb; obtain ⟨o', ho', hi'⟩ := T.nseq _ as1 H2 h1 S1
        rw [e] at ho'; cases ho'; rw [u (.head _)] at hi'; cases hi'
      · exact hk2 b o (fun z => hb (List.mem_singleton.mp z)) e⟩
    have P2 : Pre g c env ns as1 lo1 H2 h2 := P1.stepU st (P1.hr.step st fun a ha o e => hk2 a o (fun z => nAs1 (List.mem_singleton.mp z ▸ ha)) e) ofI
    refine wpAny_execs_nil ?_
    cases q
    have notI : ∀ b o, s.heap.get? b = some o → b ∉ [I] := fun b o e z => by rw [List.mem_singleton.mp z, hIn] at e; cases e
    have d1 := drop0 st1
    refine k as1 .next h2 tk2 ⟨d1.pre, d1.new, fun b o e n u => hk2 b o (notI b o e) (d1.keep b o e n u), fun b o e => ?_⟩ P2 trivial
    obtain ⟨o2, e2⟩ := d1.dom b o e
    exact ⟨o2, hk2 b o2 (notI b o e) e2⟩
end
section
variable {g : Gx} {c : Cx} {env : Env} {ns : List Str} {pos : Pos} {as as' : List Addr} {lo : Lo} {H H' : AH} {h h' : Heap}

theorem unary_neg {e : Expr} {f : Lo → AH → Option (AV × AH)} (h1 : SE g c env ns e f) : SE g c env ns (.UnaryOp .USub e pos) (fun lo H => (f lo H).bind fun p => match p.1 with | .d (.int i) => some (.d (.int (-i)), p.2) | _ => none) := by
  intro as lo H s Q E v H' P q k
  obtain ⟨⟨x, H1⟩, e1, q⟩ := Option.bind_eq_some_iff.mp q
  dsimp only at q
  split at q
  · cases q
    refine UnaryOp_ (h1 as lo H s _ _ _ _ P e1 fun as1 a ha tk1 P1 v1 => ?_)
    obtain ⟨t, rfl⟩ := v1.unint
    exact neg_int (k as1 _ ha _ P1 (.int _ _))
  · cases q

noncomputable def itD (f : Lo → AH → Option (AV × AH)) (lo : Lo) (H : AH) : Option (Src × AH) := (f lo H).bind fun p => match p.1 with
  | .d (.list l) => some ((l, none), p.2)
  | .d (.tuple l) => some ((l, none), p.2)
  | .r i => (p.2[i]?).map fun l => ((l, some i), p.2)
  | _ => none
theorem vals_of {vs : List Value} {l : List PyData} {bs : List Addr} (r : ReadsAll h vs l bs) (hc : PyData.canLayAll0 l = true) (hn : ∀ b ∈ bs, b ∉ as) {i : Nat} {v : Value} (e : (List.toArray vs)[i]? = some v) : ∃ d, l[i]? = some d ∧ VR h as v (.d d) := by
  have e' : vs[i]? = some v := by simpa using e
  have hi : i < l.length := by rw [← readsAll_len r]; exact (List.getElem?_eq_some_iff.mp e').1
  obtain ⟨u, hu, q⟩ := readsAll_get r hc hn (List.getElem?_eq_getElem hi)
  rw [e'] at hu; cases hu
  exact ⟨_, List.getElem?_eq_getElem hi, q⟩
/-- an iterator whose items stay as they are -/
theorem Itr.ofWalks {A : Around} {I : Addr} {fp : List Addr} {P : Nat → Value → Prop} {Sw : Nat → Heap → Prop} {l : List PyData} (W : Walks g.prog g.w A I fp [I] l.length P Sw) (st : Sw 0 h) (fps : ∀ b ∈ fp, b ≠ I → ∃ o, h.get? b = some o ∧ b ∉ as ∧ seqy o = true)
    (val : ∀ i v, P i v → ∃ d, l[i]? = some d ∧ VR h as v (.d d)) (self : ∃ o, h.get? I = some o ∧ iterish o = true) (own : ∀ i h', Sw i h' → ∃ o n, h'.get? I = some o ∧ seqy o = false ∧ o.cls = .type n ∧ (["enumerate", "zip", "dict_itemiterator", "dict_reverseitemiterator", "odict_iterator", "itertools.zip_longest", "itertools.pairwise"].contains n) = false) :
    Itr g A as H h I (l, none) (fun j as1 _ h1 => Sw j h1 ∧ (∀ b ∈ fp, b ≠ I → ∃ o, h1.get? b = some o ∧ b ∉ as1 ∧ seqy o = true) ∧ ∀ i v, P i v → ∃ d, l[i]? = some d ∧ VR h1 as1 v (.d d)) := by
  refine ⟨⟨st, fps, val⟩, (fun i z => by cases z), self, fun i as1 H1 h1 x => ?_, fun i as1 H1 h1 x => ?_, fun j as1 H1 s Q E hj hr hI x k => ?_, fun as1 H1 s Q E hr x k => W.done _ _ _ x.1 k, fun i as1 H1 s Q E x q => W.self i _ _ _ x.1 q, fun i as1 H1 h1 as2 H2 h2 U x hr hr2 hU hA stp _ => ?_⟩
  · obtain ⟨o, n, h1, h2, _⟩ := own i h1 x.1; exact ⟨o, h1, h2⟩
  · obtain ⟨o, n, h1, _, h2⟩ := own i h1 x.1; exact ⟨o, n, h1, h2⟩
  · obtain ⟨x1, x2, x3⟩ := x
    refine W.item j _ _ _ hj x1 fun v h' tk hv hs hk => ?_
    obtain ⟨d, hd, rv⟩ := x3 j v hv
    have st0 : Stp0 [I] as1 s.heap as1 h' := ⟨List.prefix_refl _, fun _ a1 a2 => absurd a1 a2, fun b o e n u => by
      by_cases hb : b = I
      · subst hb; obtain ⟨o', _, ho', hi', _⟩ := own j s.heap x1
        rw [e] at ho'; cases ho'; rw [u (.head _)] at hi'; cases hi'
      · exact hk b o (fun z => hb (List.mem_singleton.mp z)) e⟩
    refine k v h' tk d hd rv ⟨hs, fun b hb hne => ?_, fun i v hv => ?_⟩ hk
    · obtain ⟨o, e, n, q⟩ := x2 b hb hne
      exact ⟨o, hk b o (fun z => hne (List.mem_singleton.mp z)) e, n, q⟩
    · obtain ⟨d, hd, rv⟩ := x3 i v hv
      exact ⟨d, hd, rv.step0 hr st0⟩
  · obtain ⟨x1, x2, x3⟩ := x
    refine ⟨W.frame _ _ _ x1 fun b hb o e => ?_, fun b hb hne => ?_, fun i v hv => ?_⟩
    · by_cases hbI : b = I
      · subst hbI; exact stp.keep _ o e hA fun z => absurd z hU
      · obtain ⟨o', e', n, q⟩ := x2 b hb hbI
        rw [e] at e'; cases e'
        exact stp.keep b _ e n fun _ => q
    · obtain ⟨o', e', n, q⟩ := x2 b hb hne
      exact ⟨o', stp.keep b _ e' n fun _ => q, stp.out e' n, q⟩
    · obtain ⟨d, hd, rv⟩ := x3 i v hv
      exact ⟨d, hd, rv.step hr stp⟩
/-- an iterator over a tracked list -/
theorem Itr.tracked {A : Around} (hh : A.handled = none) {I a : Addr} {i : Nat} {l : List PyData} (hr : HR as H h) (hi : h.IsListIter I a 0) (ha : as[i]? = some a) (hl : H[i]? = some l) :
    Itr g A as H h I (l, some i) (fun j as1 H1 h1 => h1.IsListIter I a j ∧ as1[i]? = some a ∧ H1[i]? = some l) := by
  refine ⟨⟨hi, ha, hl⟩, fun j z => by cases z; exact hl, ?_, fun j as1 H1 h1 x => ?_, fun j as1 H1 h1 x => ?_, fun j as1 H1 s Q E hj hr1 hI x k => ?_, fun as1 H1 s Q E hr1 x k => ?_, fun j as1 H1 s Q E x q => ?_, fun j as1 H1 h1 as2 H2 h2 U x hr1 hr2 hU hA stp og => ?_⟩
  · obtain ⟨o, ho, _, hd⟩ := hi; exact ⟨o, ho, by unfold iterish; rw [hd]⟩
  · obtain ⟨o, ho, _, hd⟩ := x.1; exact ⟨o, ho, by unfold seqy; rw [hd]⟩
  · obtain ⟨o, ho, hc, _⟩ := x.1; exact ⟨o, _, ho, hc, by decide⟩
  · obtain ⟨x1, x2, x3⟩ := x
    obtain ⟨vs, n, bs, e, hc, r, hn⟩ := hr1.ls i a l x2 x3
    have ne : a ≠ I := fun z => hI (z ▸ List.mem_of_getElem? x2)
    have W := Walks.list (prog := g.prog) (w := g.w) hh I a ne vs.toArray
    refine W.item j _ _ _ (by rw [List.size_toArray, readsAll_len r]; exact hj) ⟨x1, ⟨_, e, rfl, n, rfl⟩⟩ fun v h' tk hv hs hk => ?_
    obtain ⟨d, hd, rv⟩ := vals_of r hc hn hv
    exact k v h' tk d hd rv ⟨hs.1, x2, x3⟩ hk
  · obtain ⟨x1, x2, x3⟩ := x
    obtain ⟨vs, n, bs, e, hc, r, hn⟩ := hr1.ls i a l x2 x3
    have ne : a ≠ I := fun z => by obtain ⟨o, ho, _, hd⟩ := x1; rw [← z, e] at ho; cases ho; cases hd
    have W := Walks.list (prog := g.prog) (w := g.w) hh I a ne vs.toArray
    exact W.done _ _ _ (by rw [List.size_toArray, readsAll_len r]; exact ⟨x1, ⟨_, e, rfl, n, rfl⟩⟩) k
  · obtain ⟨o, ho, hc, hd⟩ := x.1
    have W := Walks.list (prog := g.prog) (w := g.w) hh I (I + 1) (Nat.succ_ne_self I) #[]
    exact wpAny_pyIter_listiter x.1 q
  · obtain ⟨⟨o, ho, hc, hd⟩, x2, x3⟩ := x
    obtain ⟨r1, hr1'⟩ := stp.pre
    exact ⟨⟨o, stp.keep _ o ho hA fun z => absurd z hU, hc, hd⟩, by rw [← hr1', List.getElem?_append_left (List.getElem?_eq_some_iff.mp x2).1]; exact x2, og i rfl⟩
theorem SIt.seq {e : Expr} {f : Lo → AH → Option (AV × AH)} (h1 : SE g c env ns e f) : SIt g c env ns e (itD f) := by
  intro as lo H s Q E src H' hh P q k
  unfold itD at q
  obtain ⟨⟨x, H1⟩, e1, q⟩ := Option.bind_eq_some_iff.mp q
  refine h1 as lo H s _ _ x H1 P e1 fun as1 v ha tk1 P1 v1 => ?_
  have freshS : s.heap.get? ha.objs.size = none := by
    cases e : s.heap.get? ha.objs.size with
    | none => rfl
    | some o => obtain ⟨o', e'⟩ := P1.st.dom _ o e; rw [size_none] at e'; cases e'
  have P2 : ∀ o, Post as s.heap as1 H1 (ha.push o) := fun o => P1.trans ⟨stp_push _, P1.hr.push _⟩
  dsimp only at q
  split at q
  · cases q
    obtain ⟨a, vs, rfl, hL, hc, bs, r, hn⟩ := v1.list P1.hr rfl
    obtain ⟨hcl, cs, rd, hnd⟩ := v1
    have hna : a ∉ as1 := by cases rd with | list _ _ _ _ => exact hnd _ (.head _)
    obtain ⟨o, ho, hoc, m, hod⟩ := id hL
    have ne : a ≠ ha.objs.size := Nat.ne_of_lt (Heap.lt_size ho)
    have W := Walks.list (prog := g.prog) (w := g.w) hh ha.objs.size a ne vs.toArray
    rw [show vs.toArray.size = _ from by rw [List.size_toArray, readsAll_len r]] at W
    refine wpAny_pyIter_list hL (k as1 _ _ _ _ (P2 _) freshS (Itr.ofWalks W ⟨⟨_, Heap.get?_push_size _ rfl, rfl, rfl⟩, ⟨o, Heap.get?_push_of_some _ ho, hoc, m, hod⟩⟩ (fun b hb hne => ?_) (fun i v hv => ?_) ⟨_, Heap.get?_push_size _ rfl, rfl⟩ fun i h' x => ?_))
    · rcases List.mem_cons.mp hb with rfl | hb
      · exact absurd rfl hne
      · rw [List.mem_singleton.mp hb]
        exact ⟨o, Heap.get?_push_of_some _ ho, hna, by unfold seqy; rw [hod]⟩
    · obtain ⟨d, hd, rv⟩ := vals_of r hc hn hv
      exact ⟨d, hd, rv.step P1.hr (stp_push (U := []) _)⟩
    · obtain ⟨⟨o', ho', hc', hd'⟩, _⟩ := x
      exact ⟨o', _, ho', by unfold seqy; rw [hd'], hc', by decide⟩
  · cases q
    obtain ⟨a, vs, rfl, hL, hc, bs, r, hn⟩ := v1.tuple
    obtain ⟨o, ho, hoc, m, hod⟩ := id hL
    have hna : a ∉ as1 := P1.hr.tup a o ho hoc
    have ne : a ≠ ha.objs.size := Nat.ne_of_lt (Heap.lt_size ho)
    have W := Walks.tuple (prog := g.prog) (w := g.w) hh ha.objs.size a ne vs.toArray
    rw [show vs.toArray.size = _ from by rw [List.size_toArray, readsAll_len r]] at W
    refine wpAny_pyIter_tuple hL (k as1 _ _ _ _ (P2 _) freshS (Itr.ofWalks W ⟨⟨_, Heap.get?_push_size _ rfl, rfl, rfl⟩, ⟨o, Heap.get?_push_of_some _ ho, hoc, m, hod⟩⟩ (fun b hb hne => ?_) (fun i v hv => ?_) ⟨_, Heap.get?_push_size _ rfl, rfl⟩ fun i h' x => ?_))
    · rcases List.mem_cons.mp hb with rfl | hb
      · exact absurd rfl hne
      · rw [List.mem_singleton.mp hb]
        exact ⟨o, Heap.get?_push_of_some _ ho, hna, by unfold seqy; rw [hod]⟩
    · obtain ⟨d, hd, rv⟩ := vals_of r hc hn hv
      exact ⟨d, hd, rv.step P1.hr (stp_push (U := []) _)⟩
    · obtain ⟨⟨o', ho', hc', hd'⟩, _⟩ := x
      exact ⟨o', _, ho', by unfold seqy; rw [hd'], hc', by decide⟩
  · rename_i i
    obtain ⟨l, hl, q⟩ := Option.map_eq_some_iff.mp q
    cases q
    obtain ⟨a, rfl, haa⟩ := v1
    obtain ⟨vs, n, bs, e, hc, r, hn⟩ := P1.hr.ls i a l haa hl
    refine wpAny_pyIter_list (items := vs.toArray) ⟨_, e, rfl, n, rfl⟩ (k as1 _ _ _ _ (P2 _) freshS (Itr.tracked hh (P1.hr.push _) ⟨_, Heap.get?_push_size _ rfl, rfl, rfl⟩ haa hl))
  · cases q

/-! ranges -/
noncomputable def rngA : List AV → Option (Int × Int × Int)
  | [.d (.int n)] => some (0, n, 1)
  | [.d (.int a), .d (.int b)] => some (a, b, 1)
  | [.d (.int a), .d (.int b), .d (.int c)] => if c ≠ 0 ∧ c.natAbs < 1073741824 then some (a, b, c) else none
  | _ => none
noncomputable def rngL (a c : Int) (n : Nat) : List PyData := (List.range n).map fun (i : Nat) => .int (a + (i : Int) * c)
noncomputable def rngD (fs : Lo → AH → Option (List AV × AH)) (lo : Lo) (H : AH) : Option (Src × AH) := (fs lo H).bind fun p => (rngA p.1).bind fun r => if Builtin.Range.small r.1 r.2.1 r.2.2 = true ∧ 0 ≤ Builtin.Range.rangeSize r.1 r.2.1 r.2.2 then some ((rngL r.1 r.2.2 (Builtin.Range.rangeSize r.1 r.2.1 r.2.2).toNat, none), p.2) else none
theorem call_range_ok {A : Around} {s : Shared} {Q E : Value → Shared → Prop} {vs : List Value} {xs : List AV} {r : Int × Int × Int} (hv : VRs s.heap as vs xs) (e : rngA xs = some r)
    (k : ∀ t u v tk, Q (.ref s.heap.objs.size) { s with heap := s.heap.push { cls := .type "range", data := .fields #[.int r.1 t, .int r.2.1 u, .int r.2.2 v] }, toks := tk }) : wpAny g.M A (call (.type "range") vs) Q E s := by
  unfold rngA at e
  split at e
  · cases e
    obtain ⟨v, rfl, r1⟩ := hv.un1
    obtain ⟨t, rfl⟩ := r1.unint
    exact call_range_1 (k _ _ _ _)
  · cases e
    obtain ⟨v, u, rfl, r1, r2⟩ := hv.un2
    obtain ⟨t, rfl⟩ := r1.unint
    obtain ⟨t', rfl⟩ := r2.unint
    exact call_range_2 (k _ _ _ _)
  · split at e
    · rename_i hz
      cases e
      cases hv with
      | cons r0 hv =>
        obtain ⟨v, u, rfl, r1, r2⟩ := hv.un2
        obtain ⟨t0, rfl⟩ := r0.unint
        obtain ⟨t, rfl⟩ := r1.unint
        obtain ⟨t', rfl⟩ := r2.unint
        exact call_range_3 hz.1 (k _ _ _ _) (.inl (PyProof.noPylong_small hz.2))
    · cases e
  · cases e
theorem Itr.range {I : Addr} {a cc : Int} {n : Nat} {A : Around} (hh : A.handled = none) (ho : IsRangeIter h I a n cc) : ∃ St, Itr g A as H h I (rngL a cc n, none) St := by
  have W := (Walks.range (prog := g.prog) (w := g.w) hh I a cc n).bound
  have hn : n = (rngL a cc n).length := by simp [rngL]
  refine ⟨_, Itr.ofWalks (fp := [I]) (P := fun i v => i < n ∧ ∃ t, v = .int (a + (i : Int) * cc) t) (Sw := fun i h => IsRangeIter h I (a + (i : Nat) * cc) ((n : Int) - (i : Nat)) cc) (hn ▸ W) (by simpa using ho) (fun b hb hne => absurd (List.mem_singleton.mp hb) hne) (fun i v hv => ?_) ⟨_, ho, rfl⟩ fun i h' x => ⟨_, _, x, rfl, rfl, by decide⟩⟩
  obtain ⟨hi, t, rfl⟩ := hv
  exact ⟨_, by simp [rngL, hi], .int _ _⟩
theorem SIt.range {e : Expr} {es : List Expr} {p2 : Pos} {fs : Lo → AH → Option (List AV × AH)} (hx : GB g "range" (.type "range")) (he : EnvOk env) (hs : SEs g c env ns (e :: es) fs) (hk : env.kindOf "range" = some .globalImplicit := by rfl)
    (h1 : starEach (e :: es) env = (false, eval e env) :: starEach es env := by rfl) (h2 : ((backTo pos (starEach es env)).any fun x => x.1) = false := by rfl)
    (h3 : eval (.Call (.Name "range" p2) (e :: es) [] pos) env = (do callWith pos (← eval (.Name "range" p2) env) [] (backTo pos (starEach (e :: es) env)) (backToKw pos (keywordEach [] env))) := by rfl) :
    SIt g c env ns (.Call (.Name "range" p2) (e :: es) [] pos) (rngD fs) := by
  intro as lo H s Q E l H' hh P q k
  unfold rngD at q
  obtain ⟨⟨xs, H1⟩, e1, q⟩ := Option.bind_eq_some_iff.mp q
  obtain ⟨r, e2, q⟩ := Option.bind_eq_some_iff.mp q
  split at q
  · rename_i hz
    cases q
    refine Call_ (eval_GB P.ok he hx (Pv.callWith_type1 (hs pos as lo H s _ _ xs H1 P e1 fun as1 vs ha tk1 P1 v1 => ?_) h1 h2) hk (by decide)) h3
    refine call_range_ok v1 e2 fun t u v tk => ?_
    obtain ⟨n, hn⟩ := Int.eq_ofNat_of_zero_le hz.2
    refine wpAny_pyIter_range (Heap.get?_push_size _ rfl) hz.1 ?_
    rw [hn] at k ⊢
    have P2 : Post as1 ha as1 H1 ((ha.push { cls := .type "range", data := .fields #[.int r.1 t, .int r.2.1 u, .int r.2.2 v] }).push { cls := .type "range_iterator", data := .fields #[rawInt r.1, rawInt (n : Int), rawInt r.2.2] }) := ⟨(stp_push _).trans (stp_push _), (P1.hr.push _).push _⟩
    obtain ⟨St, It⟩ := Itr.range (g := g) (as := as1) (H := H1) (n := n) hh (Heap.get?_push_size (ha.push { cls := .type "range", data := .fields #[.int r.1 t, .int r.2.1 u, .int r.2.2 v] }) rfl)
    refine k as1 _ _ _ St (P1.trans P2) ?_ It
    cases e : s.heap.get? (ha.push { cls := .type "range", data := .fields #[.int r.1 t, .int r.2.1 u, .int r.2.2 v] }).objs.size with
    | none => rfl
    | some o =>
      obtain ⟨o', e'⟩ := P1.st.dom _ o e
      have h4 := Heap.lt_size e'
      rw [Heap.size_push] at h4
      exact absurd h4 (Nat.not_lt.mpr (Nat.le_succ _))
  · cases q
end
section
variable {g : Gx} {c : Cx} {env : Env} {ns : List Str} {pos : Pos} {as as' : List Addr} {lo : Lo} {H H' : AH} {h h' : Heap}
theorem range_reversed {A : Around} {s : Shared} {Q E : Value → Shared → Prop} {r : Addr} {a b cc : Int} {t u v : Tok} (hr : IsRange s.heap r a b cc t u v)
    (hs : (Builtin.Range.rangeFitsLong a && Builtin.Range.rangeFitsLong b && Builtin.Range.rangeFitsLong cc && Builtin.Range.rangeFitsLong (-cc) && Builtin.Range.rangeFitsLong (a - cc) && Builtin.Range.rangeFitsLong (Builtin.Range.rangeSize a b cc)) = true)
    (k : Q (.ref s.heap.objs.size) { s with heap := s.heap.push { cls := .type "range_iterator", data := .fields #[rawInt (a + (Builtin.Range.rangeSize a b cc - 1) * cc), rawInt (Builtin.Range.rangeSize a b cc), rawInt (-cc)] } }) :
    wpAny g.M A (call (.builtin "range.__reversed__") [.ref r]) Q E s := by
  have hT : s.TypeIs (.ref r) "range" := ⟨_, hr, rfl⟩
  refine wpAny_call_entry F.slot_range_reversed hT F.entry_range_reversed ?_ (F.args_range_reversed_1 _)
  unfold Builtin.«range.__reversed__»
  refine wpAny_bind (wpAny_of_eq (a := Value.ref r) rfl ?_)
  unfold Builtin.Range.rangeFields
  wp_walk using AutoSeq1.wpAny_loadPart' hr
  refine ⟨_, rfl, ?_⟩
  rw [if_pos hs]
  exact k
theorem typeMade {A : Around} {s : Shared} {E : Value → Shared → Prop} {T newId U : String} {args : List Value} {Q Q₁ : Value → Shared → Prop} (h1 : (Value.type T == Value.type "type") = false)
    (h2 : ((Manifest.find? T).bind (·.mro.findSome? fun t => (Manifest.find? t).bind fun b => if b.noNew then some true else if b.attrs.any (·.1 == "__new__") then some false else none)).getD false = false)
    (hm : ∃ c tl, mroOf (.type T) = pure (c :: tl)) (hmade : Bind.madeBy (.type T) = pure (some newId)) (hsub : isSubtype (.type U) (.type T) = pure false) (hct : checkTypeCall T ⟨args, []⟩ = pure ())
    (hnew : codeAny g.M A.in1 (.call (.builtin newId) ⟨.type T :: args, []⟩) (wants Q₁ E) s) (hnext : ∀ obj s₁, Q₁ obj s₁ → s₁.TypeIs obj U ∧ Q obj s₁) :
    wpAny g.M A (call (.type T) args) Q E s := by
  obtain ⟨c, tl, hmro⟩ := hm
  refine wpAny_call (codeAny_of_tree (show wpAny _ _ (callAny (.type T) _) _ _ _ from wpAny_pure ⟨Code.quiet_builtin _ (by decide +kernel), codeAny_builtin F.entry_type_call ?_⟩))
  rw [Around.under_plain (weight_type_call_type T args []) rfl]
  repeat (any_goals (first | assumption | wp_step))
  refine codeAny_mono hnew fun r s₁ hr => ?_
  match r, hr with
  | .error _, hr => exact hr
  | .ok (.ret obj), hr =>
    obtain ⟨hT, hq⟩ := hnext _ _ hr
    repeat (any_goals (first | assumption | wp_step))
theorem rv_mro : mroOf (.type "reversed") = pure [.type "reversed", .type "object"] := by rw [mroOf_type]; kernel_rfl
theorem rv_new : typeLookup (.type "reversed") "__new__" = pure (some (.builtin "reversed.__new__")) := by rw [typeLookup_type, builtinLookup_eq_fast]; kernel_rfl
theorem rv_made : Bind.madeBy (.type "reversed") = pure (some "reversed.__new__") := madeBy_type rv_mro rv_new (by decide +kernel)
theorem rv_sub : isSubtype (.type "reversed") (.type "reversed") = pure true := by rw [isSubtype_type]; kernel_rfl
theorem rv_plain : plainId "reversed.__new__" = true := by decide +kernel
theorem rv_entry : entryFor table "reversed.__new__" = some Builtin.«reversed.__new__» := entryFor_of_tree (by kernel_rfl)
theorem rv_class (a : Value) : Builtin.SmallTypes.newClass "reversed" ⟨[.type "reversed", a], []⟩ = pure (.type "reversed", [a]) := by
  unfold Builtin.SmallTypes.newClass
  simp only [isType, rv_sub, pure_bind, Bool.not_true, Bool.false_eq_true, if_false]
theorem call_reversed_range {A : Around} {s : Shared} {Q E : Value → Shared → Prop} {r : Addr} {a b cc : Int} {t u v : Tok} (hr : IsRange s.heap r a b cc t u v)
    (hs : (Builtin.Range.rangeFitsLong a && Builtin.Range.rangeFitsLong b && Builtin.Range.rangeFitsLong cc && Builtin.Range.rangeFitsLong (-cc) && Builtin.Range.rangeFitsLong (a - cc) && Builtin.Range.rangeFitsLong (Builtin.Range.rangeSize a b cc)) = true)
    (k : Q (.ref s.heap.objs.size) { s with heap := s.heap.push { cls := .type "range_iterator", data := .fields #[rawInt (a + (Builtin.Range.rangeSize a b cc - 1) * cc), rawInt (Builtin.Range.rangeSize a b cc), rawInt (-cc)] } }) :
    wpAny g.M A (call (.type "reversed") [.ref r]) Q E s := by
  have hT : s.TypeIs (.ref r) "range" := ⟨_, hr, rfl⟩
  refine typeMade (U := "range_iterator") (Q₁ := fun obj s₁ => obj = .ref s.heap.objs.size ∧ s₁ = { s with heap := s.heap.push { cls := .type "range_iterator", data := .fields #[rawInt (a + (Builtin.Range.rangeSize a b cc - 1) * cc), rawInt (Builtin.Range.rangeSize a b cc), rawInt (-cc)] } })
    (by decide +kernel) (by decide +kernel) ⟨_, _, rv_mro⟩ rv_made (by rw [isSubtype_type]; kernel_rfl) (by kernel_rfl) ?_ ?_
  · refine codeAny_of_tree ?_
    show wpAny _ A.in1.in1 (do checkBuiltinCall "reversed.__new__" ⟨[.type "reversed", .ref r], []⟩; again (.builtin "reversed.__new__" ⟨[.type "reversed", .ref r], []⟩)) _ _ s
    refine wpAny_bind (wpAny_of_eq (show checkBuiltinCall "reversed.__new__" ⟨[.type "reversed", .ref r], []⟩ = pure () by kernel_rfl) (wpAny_pure ⟨plainId_quiet rv_plain _, codeAny_builtin rv_entry ?_⟩))
    rw [Around.under_plainId rv_plain _]
    unfold Builtin.«reversed.__new__»
    refine wpAny_bind (wpAny_of_eq (rv_class _) ?_)
    try dsimp only
    refine wpAny_bind (wpAny_of_eq (a := ()) (by first | rfl | kernel_rfl) ?_)
    refine wpAny_bind (wpAny_of_eq (a := ()) (by first | rfl | kernel_rfl) ?_)
    try dsimp only
    refine wpAny_bind (wpAny_specialOf hT F.slot_range_reversed.lookup ?_)
    try dsimp only
    refine wpAny_bind (wpAny_of_eq (F.slot_range_reversed.bind _) ?_)
    try dsimp only
    first
    | rw [if_neg (show ¬ ((Value.builtin "range.__reversed__" == Value.none) = true) from Bool.false_ne_true)]
    | (show wpAny _ _ (if (Value.builtin "range.__reversed__" == Value.none) = true then _ else _) _ _ _; rw [if_neg (show ¬ ((Value.builtin "range.__reversed__" == Value.none) = true) from Bool.false_ne_true)])
    refine wpAny_bind (wpAny_rule ?_)
    refine wpAny_bind (m := runValue (.call (.builtin "range.__reversed__") ⟨[.ref r], []⟩)) (show wpAny _ _ (call (.builtin "range.__reversed__") [.ref r]) _ _ _ from range_reversed hr hs ?_)
    first
    | exact wpAny_pure ⟨rfl, rfl⟩
    | exact wpAny_bind (wpAny_pure (wpAny_pure ⟨rfl, rfl⟩))
  · rintro obj s₁ ⟨rfl, rfl⟩
    exact ⟨⟨_, Heap.get?_push_size _ rfl, rfl⟩, k⟩
/-- reversed(range(..)) in a for's head -/
noncomputable def revD (fs : Lo → AH → Option (List AV × AH)) (lo : Lo) (H : AH) : Option (Src × AH) := (fs lo H).bind fun p => (rngA p.1).bind fun r => if (Builtin.Range.rangeFitsLong r.1 && Builtin.Range.rangeFitsLong r.2.1 && Builtin.Range.rangeFitsLong r.2.2 && Builtin.Range.rangeFitsLong (-r.2.2) && Builtin.Range.rangeFitsLong (r.1 - r.2.2) && Builtin.Range.rangeFitsLong (Builtin.Range.rangeSize r.1 r.2.1 r.2.2)) = true ∧ 0 ≤ Builtin.Range.rangeSize r.1 r.2.1 r.2.2 then
  some ((rngL (r.1 + (Builtin.Range.rangeSize r.1 r.2.1 r.2.2 - 1) * r.2.2) (-r.2.2) (Builtin.Range.rangeSize r.1 r.2.1 r.2.2).toNat, none), p.2) else none
theorem SIt.rev {e : Expr} {es : List Expr} {p2 p3 p4 : Pos} {fs : Lo → AH → Option (List AV × AH)} (hx : GB g "range" (.type "range")) (hy : GB g "reversed" (.type "reversed")) (he : EnvOk env) (hs : SEs g c env ns (e :: es) fs) (hk : env.kindOf "range" = some .globalImplicit := by rfl) (hk2 : env.kindOf "reversed" = some .globalImplicit := by rfl)
    (h1 : starEach (e :: es) env = (false, eval e env) :: starEach es env := by rfl) (h2 : ((backTo p4 (starEach es env)).any fun x => x.1) = false := by rfl)
    (h3 : eval (.Call (.Name "range" p2) (e :: es) [] p4) env = (do callWith p4 (← eval (.Name "range" p2) env) [] (backTo p4 (starEach (e :: es) env)) (backToKw p4 (keywordEach [] env))) := by rfl)
    (h4 : starEach [.Call (.Name "range" p2) (e :: es) [] p4] env = (false, eval (.Call (.Name "range" p2) (e :: es) [] p4) env) :: starEach [] env := by rfl)
    (h5 : eval (.Call (.Name "reversed" p3) [.Call (.Name "range" p2) (e :: es) [] p4] [] pos) env = (do callWith pos (← eval (.Name "reversed" p3) env) [] (backTo pos (starEach [.Call (.Name "range" p2) (e :: es) [] p4] env)) (backToKw pos (keywordEach [] env))) := by rfl) :
    SIt g c env ns (.Call (.Name "reversed" p3) [.Call (.Name "range" p2) (e :: es) [] p4] [] pos) (revD fs) := by
  intro as lo H s Q E l H' hh P q k
  unfold revD at q
  obtain ⟨⟨xs, H1⟩, e1, q⟩ := Option.bind_eq_some_iff.mp q
  obtain ⟨r, e2, q⟩ := Option.bind_eq_some_iff.mp q
  split at q
  · rename_i hz
    cases q
    refine Call_ (eval_GB P.ok he hy (Pv.callWith_type1 (spliced_more ?_ h4) h4 rfl) hk2 (by decide)) h5
    refine Call_ (eval_GB P.ok he hx (Pv.callWith_type1 (hs p4 as lo H s _ _ xs H1 P e1 fun as1 vs ha tk1 P1 v1 => ?_) h1 h2) hk (by decide)) h3
    refine call_range_ok v1 e2 fun t u v tk => spliced_none ?_
    obtain ⟨n, hn⟩ := Int.eq_ofNat_of_zero_le hz.2
    refine call_reversed_range (Heap.get?_push_size _ rfl) hz.1 ?_
    rw [hn] at k ⊢
    have P2 : Post as1 ha as1 H1 ((ha.push { cls := .type "range", data := .fields #[.int r.1 t, .int r.2.1 u, .int r.2.2 v] }).push { cls := .type "range_iterator", data := .fields #[rawInt (r.1 + ((n : Int) - 1) * r.2.2), rawInt (n : Int), rawInt (-r.2.2)] }) := ⟨(stp_push _).trans (stp_push _), (P1.hr.push _).push _⟩
    obtain ⟨St, It⟩ := Itr.range (g := g) (as := as1) (H := H1) (n := n) hh (Heap.get?_push_size (ha.push { cls := .type "range", data := .fields #[.int r.1 t, .int r.2.1 u, .int r.2.2 v] }) rfl)
    refine wpAny_pyIter_rangeiter (Heap.get?_push_size _ rfl) (k as1 _ _ _ St (P1.trans P2) ?_ It)
    cases e : s.heap.get? (ha.push { cls := .type "range", data := .fields #[.int r.1 t, .int r.2.1 u, .int r.2.2 v] }).objs.size with
    | none => rfl
    | some o =>
      obtain ⟨o', e'⟩ := P1.st.dom _ o e
      have h4 := Heap.lt_size e'
      rw [Heap.size_push] at h4
      exact absurd h4 (Nat.not_lt.mpr (Nat.le_succ _))
  · cases q
end
noncomputable def ltO (a b : AV) (_ : AH) : Option Bool := match a, b with
  | .d (.tuple [.int a, .int b]), .d (.tuple [.int c, .int e]) => some (decide (a < c ∨ (a = c ∧ b < e)))
  | _, _ => none
theorem tuple_lt2 (l b : Addr) (x1 x2 y1 y2 : Int) (t1 t2 u1 u2 : Tok) (n n2 : Nat) (dd dd2 : Option Addr) (sl sl2 : Array (Option Value)) :
    Meets (Builtin.«tuple.__lt__» ⟨[.ref l, .ref b], []⟩)
      (fun A R s => s.heap.get? l = some { cls := .type "tuple", dict := dd, data := .seq #[.int x1 t1, .int x2 t2] n, slots := sl } ∧ s.heap.get? b = some { cls := .type "tuple", dict := dd2, data := .seq #[.int y1 u1, .int y2 u2] n2, slots := sl2 } ∧
        R (.ok (.ret (.bool (decide (x1 < y1 ∨ (x1 = y1 ∧ x2 < y2)))))) s) :=
  .of_wp fun prog w A R s h => by
    obtain ⟨hp, g, d, tk, os⟩ := s; obtain ⟨hl, hb, h⟩ := h
    have f2 := AutoSeq1.sub_tuple_tuple
    wp_walk using AutoSeq1.wpAny_loadPart' hl, AutoSeq1.wpAny_loadPart' hb
    refine wpAny_eqBool_int ?_
    by_cases e1 : x1 = y1
    · subst e1
      simp only [beq_self_eq_true, Bool.not_true, Bool.false_eq_true, if_false]
      wp_walk
      refine wpAny_eqBool_int ?_
      by_cases e2 : x2 = y2
      · subst e2
        simp only [beq_self_eq_true, Bool.not_true, Bool.false_eq_true, if_false]
        wp_walk
        have : decide (x1 < x1 ∨ x1 = x1 ∧ x2 < x2) = false := by simp
        rw [this] at h
        exact ⟨_, rfl, h⟩
      · have q : (x2 == y2) = false := by simpa using e2
        rw [q]
        simp only [Bool.not_false, if_true]
        refine wpAny_bind (wpAny_rule (wpAny_bind ?_))
        refine lt_int ?_
        have : decide (x1 < x1 ∨ x1 = x1 ∧ x2 < y2) = decide (x2 < y2) := by simp
        rw [this] at h
        wp_walk
        exact ⟨_, rfl, h⟩
    · have q : (x1 == y1) = false := by simpa using e1
      rw [q]
      simp only [Bool.not_false, if_true]
      refine wpAny_bind (wpAny_rule (wpAny_bind ?_))
      refine lt_int ?_
      have : decide (x1 < y1 ∨ x1 = y1 ∧ x2 < y2) = decide (x1 < y1) := by simp [e1]
      rw [this] at h
      wp_walk
      exact ⟨_, rfl, h⟩
theorem lt_exact {g : Gx} {A : Around} {as : List Addr} {s : Shared} {Q E : Value → Shared → Prop} {a b : Value} {x1 x2 y1 y2 : Int} (hu : A.units + 100 < cLine) (ha : VR s.heap as a (.d (.tuple [.int x1, .int x2]))) (hb : VR s.heap as b (.d (.tuple [.int y1, .int y2])))
    (k : Q (.bool (decide (x1 < y1 ∨ (x1 = y1 ∧ x2 < y2)))) s) : wpAny g.M A (compareOp .Lt a b) Q E s := by
  obtain ⟨_, _, q1, _⟩ := ha
  obtain ⟨_, _, q2, _⟩ := hb
  cases q1 with
  | @tuple a1 o1 vs1 n1 _ _ e1 e2 e3 r1 =>
    cases q2 with
    | @tuple a2 o2 vs2 n2 _ _ f1 f2 f3 r2 =>
      obtain ⟨c1, d1, da1, s1⟩ := o1
      obtain ⟨c2, d2, da2, s2⟩ := o2
      simp only at e2 e3 f2 f3
      subst e2 e3 f2 f3
      obtain ⟨l1⟩ := vs1
      obtain ⟨l2⟩ := vs2
      cases r1 with
      | cons i1 r1 => cases r1 with
        | cons i2 r1 =>
          cases r1; cases i1; cases i2
          cases r2 with
          | cons j1 r2 => cases r2 with
            | cons j2 r2 =>
              cases r2; cases j1; cases j2
              exact richCompare_meets_room (op := .Lt) ⟨_, e1, rfl⟩ ⟨_, f1, rfl⟩ F.slot_tuple_lt F.entry_tuple_lt (F.args_tuple_lt_2 _ _) (tuple_lt2 a1 a2 _ _ _ _ _ _ _ _ n1 n2 d1 d2 s1 s2) ⟨e1, f1, (fun x => nomatch x), k⟩ (by omega)
theorem op_ltT {g : Gx} : OpOk g (compareOp .Lt) (boolAV ltO) := by
  intro A as H s Q E a b x y z hu hr ha hb e k
  obtain ⟨r, e', rfl⟩ := Option.map_eq_some_iff.mp e
  clear e
  unfold ltO at e'
  split at e'
  · cases e'
    exact lt_exact hu ha hb (k _ s.heap s.toks (.refl hr) (.bool _))
  · cases e'
theorem len0 {α : Type} {l : List α} (h : l.length = 0) : l = [] := List.length_eq_zero_iff.mp h
theorem lenS {α : Type} {l : List α} {n : Nat} (h : l.length = n + 1) : ∃ a r, l = a :: r ∧ r.length = n := by
  cases l with
  | nil => exact absurd h.symm (Nat.succ_ne_zero _)
  | cons a l => exact ⟨a, l, rfl, Nat.succ.inj h⟩
theorem len1 {α : Type} {l : List α} (h : l.length = 1) : ∃ a, l = [a] := by
  obtain ⟨a, r, rfl, k⟩ := lenS h
  exact ⟨a, by rw [len0 k]⟩
theorem len2 {α : Type} {l : List α} (h : l.length = 2) : ∃ a b, l = [a, b] := by
  obtain ⟨a, r, rfl, k⟩ := lenS h
  obtain ⟨b, rfl⟩ := len1 k
  exact ⟨a, b, rfl⟩
theorem len3 {α : Type} {l : List α} (h : l.length = 3) : ∃ a b c, l = [a, b, c] := by
  obtain ⟨a, r, rfl, k⟩ := lenS h
  obtain ⟨b, c, rfl⟩ := len2 k
  exact ⟨a, b, c, rfl⟩
noncomputable def drS : Stmt → DefRec
  | .FunctionDef name a b _ _ _ sc _ _ pos => ⟨name, a, b, sc, pos⟩
  | _ => ⟨"", ⟨[], [], none, [], [], none, []⟩, [], ⟨.function, [], false, false, []⟩, default⟩
/-- the k-th statement of the text, as a def -/
noncomputable def dr (k : Nat) : DefRec := drS (PySem.Challenge.pw_pd0172_01.main.body.getD k (.Pass default))

/-- the top's names that the law reads -/
structure Gl (g : Gx) : Prop where
  len : GB g "len" (.builtin "len")
  range : GB g "range" (.type "range")
  reversed : GB g "reversed" (.type "reversed")
  recs : ∀ k ∈ [2, 3, 4, 5, 6, 10, 19, 23, 24, 25, 26, 27, 29, 30, 31, 32, 33], dr k ∈ recsOf g.p

/-! _siftdown -/
noncomputable def dnBody : Den :=
  seqD (setD 3 (opD itO (ldD 0) (ldD 2)))
  (seqD (whileD (cmpD (icmp fun a b => decide (b < a)) (ldD 2) (ldD 1))
    (seqD (setD 4 (opD (iop fun a b => if 0 ≤ b then some (Int.fdiv a (2 ^ b.toNat)) else none) (opD (iop fun a b => some (a - b)) (ldD 2) (kD (.int 1))) (kD (.int 1))))
    (seqD (setD 5 (opD itO (ldD 0) (ldD 4)))
    (seqD (iteD (cmpD ltO (ldD 3) (ldD 5)) (seqD (storeD (ldD 5) (ldD 0) (ldD 2)) (seqD (setD 2 (ldD 4)) (seqD (flowD .cont) doneD))) doneD)
    (seqD (flowD .brk) doneD)))) 100)
  (seqD (storeD (ldD 3) (ldD 0) (ldD 2)) doneD))
abbrev dnNames : List Str := ["heap", "startpos", "pos", "newitem", "parentpos", "parent"]
theorem dn_ss {g : Gx} (c : Cx) (a L : Addr) (cd : Value) (fe : FEnv c (envOf (dr 5).name (dr 5).scope L a cd) dnNames) : SS g c (envOf (dr 5).name (dr 5).scope L a cd) dnNames (dr 5).body dnBody := by
  unfold dnBody
  refine SS.cons (SX.assign fe rfl (SE.item (SE.name rfl) (SE.name rfl))) ?_
  refine SS.cons (SX.while 100 (ST.cmp op_gt (SE.name rfl) (SE.name rfl)) ?_) ?_
  · refine SS.cons (SX.assign fe rfl (SE.binop op_shr (SE.binop op_sub (SE.name rfl) SE.int) SE.int)) ?_
    refine SS.cons (SX.assign fe rfl (SE.item (SE.name rfl) (SE.name rfl))) ?_
    refine SS.cons (SX.ite (ST.cmp op_ltT (SE.name rfl) (SE.name rfl)) ?_ SS.nil) (SS.cons SX.brk SS.nil)
    exact SS.cons (SX.store (SE.name rfl) (SE.name rfl) (SE.name rfl)) (SS.cons (SX.assign fe rfl (SE.name rfl)) (SS.cons SX.cont SS.nil))
  · exact SS.cons (SX.store (SE.name rfl) (SE.name rfl) (SE.name rfl)) SS.nil
theorem dn_cf {g : Gx} (gl : Gl g) : CF g (dr 5).name 1 false (bodyD 3 3 dnBody) :=
  CF.of_body (ps := ["heap", "startpos", "pos"]) (ns := dnNames) (gl.recs 5 (by decide)) (fun vs pm cd doc hv => by obtain ⟨_, _, _, rfl⟩ := len3 hv; rfl) (by decide) (by decide) (by decide) ⟨_, rfl⟩ rfl rfl rfl fun c a L cd _ _ fe => dn_ss c a L cd fe

/-! _siftup -/
noncomputable def upBody : Den :=
  seqD (setD 2 (callD lenO (consD (ldD 0) nilD)))
  (seqD (setD 3 (ldD 1))
  (seqD (setD 4 (opD itO (ldD 0) (ldD 1)))
  (seqD (setD 5 (opD (iop fun a b => some (a + b)) (opD (iop fun a b => if a.natAbs < 2 ^ 30 then some (a * b) else none) (kD (.int 2)) (ldD 1)) (kD (.int 1))))
  (seqD (whileD (cmpD (icmp fun a b => decide (a < b)) (ldD 5) (ldD 2))
    (seqD (setD 6 (opD (iop fun a b => some (a + b)) (ldD 5) (kD (.int 1))))
    (seqD (iteD (andD (cmpD (icmp fun a b => decide (a < b)) (ldD 6) (ldD 2)) (notD (cmpD ltO (opD itO (ldD 0) (ldD 5)) (opD itO (ldD 0) (ldD 6))))) (seqD (setD 5 (ldD 6)) doneD) doneD)
    (seqD (storeD (opD itO (ldD 0) (ldD 5)) (ldD 0) (ldD 1))
    (seqD (setD 1 (ldD 5))
    (seqD (setD 5 (opD (iop fun a b => some (a + b)) (opD (iop fun a b => if a.natAbs < 2 ^ 30 then some (a * b) else none) (kD (.int 2)) (ldD 1)) (kD (.int 1)))) doneD))))) 100)
  (seqD (storeD (ldD 4) (ldD 0) (ldD 1))
  (seqD (exprD (callD (bodyD 3 3 dnBody) (consD (ldD 0) (consD (ldD 3) (consD (ldD 1) nilD))))) doneD))))))
abbrev upNames : List Str := ["heap", "pos", "endpos", "startpos", "newitem", "childpos", "rightpos"]
theorem up_ss {g : Gx} (gl : Gl g) (c : Cx) (a L : Addr) (cd : Value) (hl : 1 ≤ c.lv) (fe : FEnv c (envOf (dr 6).name (dr 6).scope L a cd) upNames) : SS g c (envOf (dr 6).name (dr 6).scope L a cd) upNames (dr 6).body upBody := by
  unfold upBody
  refine SS.cons (SX.assign fe rfl (SE.builtin b_len gl.len fe.toEnvOk (SEs.cons (SE.name rfl) SEs.nil))) ?_
  refine SS.cons (SX.assign fe rfl (SE.name rfl)) (SS.cons (SX.assign fe rfl (SE.item (SE.name rfl) (SE.name rfl))) ?_)
  refine SS.cons (SX.assign fe rfl (SE.binop op_add (SE.binop op_mul SE.int (SE.name rfl)) SE.int)) ?_
  refine SS.cons (SX.while 100 (ST.cmp op_lt (SE.name rfl) (SE.name rfl)) ?_) ?_
  · refine SS.cons (SX.assign fe rfl (SE.binop op_add (SE.name rfl) SE.int)) ?_
    refine SS.cons (SX.ite (ST.and (ST.cmp op_lt (SE.name rfl) (SE.name rfl)) (ST.not (ST.cmp op_ltT (SE.item (SE.name rfl) (SE.name rfl)) (SE.item (SE.name rfl) (SE.name rfl))))) (SS.cons (SX.assign fe rfl (SE.name rfl)) SS.nil) SS.nil) ?_
    refine SS.cons (SX.store (SE.item (SE.name rfl) (SE.name rfl)) (SE.name rfl) (SE.name rfl)) ?_
    exact SS.cons (SX.assign fe rfl (SE.name rfl)) (SS.cons (SX.assign fe rfl (SE.binop op_add (SE.binop op_mul SE.int (SE.name rfl)) SE.int)) SS.nil)
  · refine SS.cons (SX.store (SE.name rfl) (SE.name rfl) (SE.name rfl)) (SS.cons (SX.expr ?_) SS.nil)
    exact SE.call (dn_cf gl) (gl.recs 5 (by decide)) rfl hl (fun h => by cases h) fe.toEnvOk (SEs.cons (SE.name rfl) (SEs.cons (SE.name rfl) (SEs.cons (SE.name rfl) SEs.nil)))
theorem up_cf {g : Gx} (gl : Gl g) : CF g (dr 6).name 2 false (bodyD 2 5 upBody) :=
  CF.of_body (ps := ["heap", "pos"]) (ns := upNames) (gl.recs 6 (by decide)) (fun vs pm cd doc hv => by obtain ⟨_, _, rfl⟩ := len2 hv; rfl) (by decide) (by decide) (by decide) ⟨_, rfl⟩ rfl rfl rfl fun c a L cd hl _ fe => up_ss gl c a L cd hl fe

/-! heapreplace, heappop, heapify -/
noncomputable def upCall (a b : Lo → AH → Option (AV × AH)) : Den := exprD (callD (bodyD 2 5 upBody) (consD a (consD b nilD)))
noncomputable def hrBody : Den :=
  seqD (setD 2 (opD itO (ldD 0) (kD (.int 0))))
  (seqD (storeD (ldD 1) (ldD 0) (kD (.int 0)))
  (seqD (upCall (ldD 0) (kD (.int 0)))
  (seqD (retD (ldD 2)) doneD)))
theorem hr_cf {g : Gx} (gl : Gl g) : CF g (dr 3).name 3 false (bodyD 2 1 hrBody) := by
  refine CF.of_body (ps := ["heap", "item"]) (ns := ["heap", "item", "returnitem"]) (gl.recs 3 (by decide)) (fun vs pm cd doc hv => by obtain ⟨_, _, rfl⟩ := len2 hv; rfl) (by decide) (by decide) (by decide) ⟨_, rfl⟩ rfl rfl rfl fun c a L cd hl _ fe => ?_
  refine SS.cons (SX.assign fe rfl (SE.item (SE.name rfl) SE.int)) (SS.cons (SX.store (SE.name rfl) (SE.name rfl) SE.int) ?_)
  exact SS.cons (SX.expr (SE.call (up_cf gl) (gl.recs 6 (by decide)) rfl hl (fun h => by cases h) fe.toEnvOk (SEs.cons (SE.name rfl) (SEs.cons SE.int SEs.nil)))) (SS.cons (SX.ret (SE.name rfl)) SS.nil)
noncomputable def hpBody : Den :=
  seqD (setD 1 (methD popO (ldD 0) nilD))
  (seqD (iteD (trD trO (ldD 0))
    (seqD (setD 2 (opD itO (ldD 0) (kD (.int 0))))
    (seqD (storeD (ldD 1) (ldD 0) (kD (.int 0)))
    (seqD (upCall (ldD 0) (kD (.int 0)))
    (seqD (retD (ldD 2)) doneD)))) doneD)
  (seqD (retD (ldD 1)) doneD))
theorem hp_cf {g : Gx} (gl : Gl g) : CF g (dr 2).name 3 false (bodyD 1 2 hpBody) := by
  refine CF.of_body (ps := ["heap"]) (ns := ["heap", "lastelt", "returnitem"]) (gl.recs 2 (by decide)) (fun vs pm cd doc hv => by obtain ⟨_, rfl⟩ := len1 hv; rfl) (by decide) (by decide) (by decide) ⟨_, rfl⟩ rfl rfl rfl fun c a L cd hl _ fe => ?_
  refine SS.cons (SX.assign fe rfl (SE.method0 g_pop b_pop (SE.name rfl))) (SS.cons (SX.ite (ST.plain tr_ok (SE.name rfl)) ?_ SS.nil) (SS.cons (SX.ret (SE.name rfl)) SS.nil))
  refine SS.cons (SX.assign fe rfl (SE.item (SE.name rfl) SE.int)) (SS.cons (SX.store (SE.name rfl) (SE.name rfl) SE.int) ?_)
  exact SS.cons (SX.expr (SE.call (up_cf gl) (gl.recs 6 (by decide)) rfl hl (fun h => by cases h) fe.toEnvOk (SEs.cons (SE.name rfl) (SEs.cons SE.int SEs.nil)))) (SS.cons (SX.ret (SE.name rfl)) SS.nil)
noncomputable def hfBody : Den :=
  seqD (setD 1 (callD lenO (consD (ldD 0) nilD)))
  (seqD (forD 2 (revD (consD (opD (iop fun a b => if b ≠ 0 ∧ b.natAbs < 1073741824 then some (Int.fdiv a b) else none) (ldD 1) (kD (.int 2))) nilD)) (seqD (upCall (ldD 0) (ldD 2)) doneD)) doneD)
theorem hf_cf {g : Gx} (gl : Gl g) : CF g (dr 4).name 3 true (bodyD 1 2 hfBody) := by
  refine CF.of_body (ps := ["x"]) (ns := ["x", "n", "i"]) (gl.recs 4 (by decide)) (fun vs pm cd doc hv => by obtain ⟨_, rfl⟩ := len1 hv; rfl) (by decide) (by decide) (by decide) ⟨_, rfl⟩ rfl rfl rfl fun c a L cd hl hh fe => ?_
  refine SS.cons (SX.assign fe rfl (SE.builtin b_len gl.len fe.toEnvOk (SEs.cons (SE.name rfl) SEs.nil))) (SS.cons (SX.for (hh rfl) fe (Tgt.local fe rfl) (SIt.rev gl.range gl.reversed fe.toEnvOk (SEs.cons (SE.binop op_fdiv (SE.name rfl) SE.int) SEs.nil)) ?_) SS.nil)
  exact SS.cons (SX.expr (SE.call (up_cf gl) (gl.recs 6 (by decide)) rfl hl (fun h => by cases h) fe.toEnvOk (SEs.cons (SE.name rfl) (SEs.cons (SE.name rfl) SEs.nil)))) SS.nil
section
variable {g : Gx} {c : Cx} {env : Env} {ns : List Str} {pos : Pos} {as as' as'' : List Addr} {lo : Lo} {H H' : AH} {h h' h'' : Heap} {U : List Addr} {Inv : Heap → Prop}

theorem Stp.fresh (s : Stp U as h as' h') (hU : ∀ b ∈ U, h.get? b = none) : Stp [] as h as' h' :=
  ⟨s.pre, s.new, fun b o e n _ => s.keep b o e n fun z => (by rw [hU b z] at e; cases e), s.dom⟩
theorem post_keeps (hr : HR as H h) (hk : ∀ b o, h.get? b = some o → h'.get? b = some o) : Post as h as H h' :=
  have st : Stp [] as h as h' := ⟨List.prefix_refl _, fun _ h1 h2 => absurd h1 h2, fun b o e _ _ => hk b o e, fun b o e => ⟨o, hk b o e⟩⟩
  ⟨st, hr.step st.to0 fun a _ o e => hk a o e⟩
theorem keeps_extBut (he : Heap.ExtBut h.objs.size h h') : ∀ b o, h.get? b = some o → h'.get? b = some o := fun b o e => he b o (Nat.ne_of_lt (Heap.lt_size e)) e

/-! targets -/
/-- a name is stored -/
noncomputable def Sto (g : Gx) (c : Cx) (env : Env) (ns : List Str) (U : List Addr) (Inv : Heap → Prop) (x : Str) (i : Nat) : Prop :=
  ∀ (A : Around) (as : List Addr) (lo : Lo) (H : AH) (s : Shared) (Q : Unit → Shared → Prop) (E : Value → Shared → Prop) (v : Value) (av : AV), Pre g c env ns as lo H s.heap → Inv s.heap → VR s.heap as v av →
    (∀ h' tk, Stp U as s.heap as h' → Pre g c env ns as (lo.set i (some av)) H h' → Inv h' → Q () { s with heap := h', toks := tk }) → wpAny g.M A (storeName env x v) Q E s
noncomputable def TG (g : Gx) (c : Cx) (env : Env) (ns : List Str) (U : List Addr) (Inv : Heap → Prop) (t : Expr) (D : Lo → AV → Option Lo) : Prop :=
  ∀ (as : List Addr) (lo : Lo) (H : AH) (s : Shared) (Q : Unit → Shared → Prop) (E : Value → Shared → Prop) (v : Value) (av : AV) (lo' : Lo), c.A.handled = none → Pre g c env ns as lo H s.heap → Inv s.heap → VR s.heap as v av → D lo av = some lo' →
    (∀ h' tk, Stp U as s.heap as h' → Pre g c env ns as lo' H h' → Inv h' → Q () { s with heap := h', toks := tk }) → wpAny g.M c.A (assign t env v) Q E s
noncomputable def tg1 (i : Nat) (lo : Lo) (av : AV) : Option Lo := some (lo.set i (some av))
noncomputable def setAll : List Nat → List PyData → Lo → Lo
  | i :: is, d :: ds, lo => setAll is ds (lo.set i (some (.d d)))
  | _, _, lo => lo
noncomputable def tgN (is : List Nat) (lo : Lo) (av : AV) : Option Lo := match av with
  | .d (.tuple l) => if l.length = is.length then some (setAll is l lo) else none
  | _ => none
theorem TG.name {x : Str} {i : Nat} {p : Pos} (hs : Sto g c env ns U Inv x i) : TG g c env ns U Inv (.Name x p) (tg1 i) := by
  intro as lo H s Q E v av lo' hh P hI hv e k
  cases e
  exact wpAny_assign_Name (hs c.A as lo H s _ _ v av P hI hv k)
noncomputable def Stos (g : Gx) (c : Cx) (env : Env) (ns : List Str) (U : List Addr) (Inv : Heap → Prop) : List Expr → List Nat → Prop
  | [], [] => True
  | e :: es, i :: is => (∃ x p, e = .Name x p ∧ Sto g c env ns U Inv x i) ∧ Stos g c env ns U Inv es is
  | _, _ => False
theorem Stos.each {es : List Expr} {is : List Nat} (h : Stos g c env ns U Inv es is) : es.length = is.length ∧ (assignEach es env).length = is.length ∧ (assignEach es env).findIdx? (·.1) = none := by
  induction es generalizing is with
  | nil =>
    cases is with
    | nil => exact ⟨rfl, rfl, rfl⟩
    | cons _ _ => exact h.elim
  | cons e es ih =>
    cases is with
    | nil => exact h.elim
    | cons i is =>
      obtain ⟨⟨x, p, rfl, _⟩, h⟩ := h
      obtain ⟨h1, h2, h3⟩ := ih h
      refine ⟨congrArg Nat.succ h1, congrArg Nat.succ h2, ?_⟩
      show ((false, assign (.Name x p) env) :: assignEach es env).findIdx? _ = _
      rw [List.findIdx?_cons, h3]; rfl
theorem VRs.steps {vs : List Value} {xs : List AV} (r : VRs h as vs xs) (hr : HR as H h) (s : Stp U as h as' h') : VRs h' as' vs xs := by
  induction r with
  | nil => exact .nil
  | cons a _ ih => exact .cons (a.step hr s) ih
theorem Stos.run {es : List Expr} {is : List Nat} {ds : List PyData} {vs : List Value} {lo : Lo} {s : Shared} {Q : Unit → Shared → Prop} {E : Value → Shared → Prop} (h : Stos g c env ns U Inv es is) (hl : ds.length = is.length) (hv : VRs s.heap as vs (ds.map .d)) (P : Pre g c env ns as lo H s.heap) (hI : Inv s.heap)
    (k : ∀ h' tk, Stp U as s.heap as h' → Pre g c env ns as (setAll is ds lo) H h' → Inv h' → Q () { s with heap := h', toks := tk }) : wpAny g.M c.A (assignInOrder ((assignEach es env).map (·.2)) vs) Q E s := by
  induction es generalizing is ds vs lo s with
  | nil =>
    cases is with
    | cons _ _ => exact h.elim
    | nil =>
      have : ds = [] := List.length_eq_zero_iff.mp hl
      subst this; cases hv
      exact wpAny_assignInOrder_none (k s.heap s.toks .refl P hI)
  | cons e es ih =>
    cases is with
    | nil => exact h.elim
    | cons i is =>
      cases ds with
      | nil => cases hl
      | cons d ds =>
        cases hv with
        | cons r rs =>
          obtain ⟨⟨x, p, rfl, hx⟩, h⟩ := h
          rename_i v vs
          show wpAny _ _ (assignInOrder (assign (.Name x p) env :: (assignEach es env).map (·.2)) (v :: vs)) _ _ _
          refine wpAny_assignInOrder_more (wpAny_assign_Name (hx c.A as lo H s _ _ v (.d d) P hI r fun h1 tk1 st1 P1 I1 => ?_))
          exact ih (s := { s with heap := h1, toks := tk1 }) h (Nat.succ.inj hl) (rs.steps P.hr st1) P1 I1 fun h2 tk2 st2 P2 I2 => k h2 tk2 (st1.trans st2) P2 I2
theorem TG.tuple {es : List Expr} {is : List Nat} {n : Nat} {p : Pos} (hI : ∀ h h', Inv h → (∀ b o, h.get? b = some o → h'.get? b = some o) → Inv h') (hs : Stos g c env ns U Inv es is) : TG g c env ns U Inv (.Tuple es n p) (tgN is) := by
  intro as lo H s Q E v av lo' hh P iv hv e k
  unfold tgN at e
  split at e
  · rename_i l
    split at e
    · rename_i hl
      cases e
      obtain ⟨a, vs, rfl, hT, hc, bs, r, hn⟩ := hv.tuple
      obtain ⟨e1, e2, e3⟩ := hs.each
      have hvl := readsAll_len r
      refine assign_Tuple_tuple hh hT (by rw [e2, List.size_toArray, hvl, hl]) e3 fun h1 he => ?_
      have P1 : Post as s.heap as H h1 := post_keeps P.hr (keeps_extBut he)
      have rs := (readsAll_vrs r hc hn).step P.hr P1.st
      exact hs.run (s := { s with heap := h1 }) hl rs (P.step P1) (hI _ _ iv (keeps_extBut he)) fun h2 tk2 st2 P2 I2 => k h2 tk2 (P1.up.trans st2) P2 I2
    · cases e
  · cases e

/-- a function's own frame -/
theorem Sto.local {x : Str} {i : Nat} (fe : FEnv c env ns) (hi : ns[i]? = some x) (hk : env.kindOf x = some .local := by rfl) : Sto g c env ns (Us c env) (fun _ => True) x i :=
  fun A as lo H s Q E v av P _ hv k => store_local fe hi hk P hv fun h' tk st P' => k h' tk st P' trivial
theorem Sto.cell {x : Str} {i : Nat} {ca : Addr} (fe : FEnv c env ns) (hi : ns[i]? = some x) (hc : env.cells.lookup x = some ca) (hk : env.kindOf x = some .cell := by rfl) : Sto g c env ns (Us c env) (fun _ => True) x i :=
  fun A as lo H s Q E v av P _ hv k => store_cell fe hi hk hc P hv fun h' tk st P' => k h' tk st P' trivial

/-! a comprehension's own frame -/
structure CEnv (c : Cx) (env : Env) (ns : List Str) : Prop extends EnvOk env where
  nd : ns.Nodup
  neL : c.L ≠ env.locals
  base : c.h₀.get? env.locals = none
theorem Sto.comp {x : Str} {i : Nat} (ce : CEnv c env ns) (hi : ns[i]? = some x) (hk : env.kindOf x = some .local := by rfl) : Sto g c env ns [env.locals] (fun h => ∃ m, h.Ns env.locals m) x i := by
  rintro A as lo H s Q E v av P ⟨m, hns⟩ hv k
  obtain ⟨mF, F⟩ := P.ok.F
  refine wpAny_storeName_local hk hns (fun h' hn hs => ?_) (by rw [ce.fk]; rfl)
  obtain ⟨oL, esL, epL, hoL, hdL, _⟩ := id hns
  have seqL : seqy oL = false := by unfold seqy; rw [hdL]
  have notL : ∀ b o, s.heap.get? b = some o → seqy o = true → b ≠ env.locals := fun b o e q z => by rw [z, hoL] at e; cases e; rw [seqL] at q; cases q
  have st : Stp [env.locals] as s.heap as h' := by
    refine ⟨List.prefix_refl _, fun _ h1 h2 => absurd h1 h2, fun b o e n q => ?_, fun b o e => ?_⟩
    · by_cases hb : b = env.locals
      · subst hb; exact absurd rfl (notL _ o e (q (.head _)))
      · rw [hs.2 b hb]; exact e
    · by_cases hb : b = env.locals
      · subst hb; obtain ⟨o', _, _, ho', _⟩ := hn; exact ⟨o', ho'⟩
      · exact ⟨o, by rw [hs.2 b hb]; exact e⟩
  have hr' : HR as H h' := P.hr.step st.to0 fun a ha o e => by
    obtain ⟨vs, n, e'⟩ := P.hr.seq ha
    rw [hs.2 a (notL a _ e' rfl)]; exact e
  have F' : Fr c.h₀ c.L h' mF := ⟨F.ns.sameBut hs ce.neL, fun b o e => by rw [hs.2 b fun z => by rw [z, ce.base] at e; cases e]; exact F.keep b o e, F.above⟩
  refine k h' _ st ⟨⟨P.ok.B, P.ok.T, P.ok.Tb, P.ok.fr, P.ok.ff, P.ok.fk, P.ok.room, P.ok.units, ⟨_, F'⟩, P.ok.nw⟩, LO.mk_set (fun y hy => ?_) (fun j y u hj e1 e2 => ?_), hr', fun q hq => ⟨(P.cl q hq).1, ?_⟩⟩ ⟨_, hn⟩
  · rw [hi] at hy; cases hy
    exact ⟨ce.fk, v, hv.step P.hr st, .inl ⟨hk, _, hn, if_pos rfl⟩⟩
  · obtain ⟨q1, u', q2, q3⟩ := P.lo j y u e1 e2
    refine ⟨q1, u', q2.step P.hr st, q3.imp (fun ⟨a1, m', a2, a3⟩ => ⟨a1, _, hn, ?_⟩) fun ⟨a1, b, a2, a3⟩ => ⟨a1, b, a2, ?_⟩⟩
    · have ne : y ≠ x := fun z => hj ((List.getElem?_inj (List.getElem?_eq_some_iff.mp e1).1 ce.nd).mp (e1.trans (z ▸ hi.symm)))
      rw [if_neg ne]
      obtain ⟨o1, es1, ep1, ho1, hd1, _, hf1⟩ := hns
      obtain ⟨o2, es2, ep2, ho2, hd2, _, hf2⟩ := a2
      rw [ho1] at ho2; cases ho2
      rw [hd1] at hd2; cases hd2
      rw [← hf1 y, hf2 y]; exact a3
    · obtain ⟨o, ho, hd⟩ := a3
      refine ⟨o, ?_, hd⟩
      rw [hs.2 b fun z => by rw [z, hoL] at ho; cases ho; rw [hdL] at hd; cases hd]
      exact ho
  · obtain ⟨w, o, ho, hd⟩ := (P.cl q hq).2
    exact ⟨w, o, by rw [hs.2 q.2 fun z => by rw [z, hoL] at ho; cases ho; rw [hdL] at hd; cases hd]; exact ho, hd⟩

/-- which names of the comprehension's are the function's -/
noncomputable def capL (js : List Nat) (k : Nat) (lo : Lo) : Lo := js.map (fun j => (lo[j]?).join) ++ List.replicate k none
noncomputable def Cap (env env' : Env) (ns ns' : List Str) (js : List Nat) : Prop :=
  ∀ (p j : Nat), js[p]? = some j → ∃ x ca, ns'[p]? = some x ∧ ns[j]? = some x ∧ env.kindOf x = some .cell ∧ env.cells.lookup x = some ca ∧ env'.kindOf x = some .cell ∧ env'.cells.lookup x = some ca
theorem LO.cap {env' : Env} {ns' : List Str} {js : List Nat} {k : Nat} (l : LO env ns lo as h) (hc : Cap env env' ns ns' js) (hk : env'.scope.kind = .function) : LO env' ns' (capL js k lo) as h := by
  intro i x v e1 e2
  unfold capL at e2
  by_cases hi : i < js.length
  · rw [List.getElem?_append_left (by simpa using hi), List.getElem?_map, List.getElem?_eq_getElem hi] at e2
    obtain ⟨y, ca, h1, h2, h3, h4, h5, h6⟩ := hc i _ (List.getElem?_eq_getElem hi)
    rw [e1] at h1; cases h1
    have e3 : lo[js[i]]? = some (some v) := by
      simp only [Option.map_some, Option.some.injEq] at e2
      cases e : lo[js[i]]? with
      | none => rw [e] at e2; cases e2
      | some z => rw [e] at e2; simp only [Option.join_some] at e2; rw [e2]
    obtain ⟨q1, u, q2, q3⟩ := l _ x v h2 e3
    refine ⟨hk, u, q2, .inr ?_⟩
    rcases q3 with ⟨e, _⟩ | ⟨_, b, e, q4⟩
    · rw [h3] at e; cases e
    · rw [h4] at e; cases e
      exact ⟨h5, _, h6, q4⟩
  · rw [List.getElem?_append_right (by simpa using hi)] at e2
    have := List.mem_of_getElem? e2
    rw [List.mem_replicate] at this
    cases this.2

/-! the tests of a comprehension -/
noncomputable def CTs (g : Gx) (c : Cx) (env : Env) (ns : List Str) (ifs : List Expr) (t : Lo → AH → Option (Bool × AH)) : Prop :=
  ∀ (as : List Addr) (lo : Lo) (H : AH) (s : Shared) (Q : Bool → Shared → Prop) (E : Value → Shared → Prop) (b : Bool) (H' : AH), Pre g c env ns as lo H s.heap → t lo H = some (b, H') →
    (∀ as' h' tk, Post as s.heap as' H' h' → Q b { s with heap := h', toks := tk }) →
    wpAny g.M c.A (forIn ifs true fun c r => if r = true then do let ok ← isTrue c env (eval c env); pure (ForInStep.yield ok) else pure (ForInStep.yield r)) Q E s
noncomputable def tNo (_ : Lo) (H : AH) : Option (Bool × AH) := some (true, H)
theorem CTs.nil : CTs g c env ns [] tNo := fun as lo H s Q E b H' P e k => by cases e; exact wpAny_tests_nil (k as s.heap s.toks (.refl P.hr))
theorem CTs.one {e : Expr} {t : Lo → AH → Option (Bool × AH)} (ht : ST g c env ns e t) : CTs g c env ns [e] t := fun as lo H s Q E b H' P q k => wpAny_tests_one (ht as lo H s _ _ b H' P q k)

/-- the loop of a comprehension -/
theorem comp_loop {elt target iter : Expr} {ifs : List Expr} {scope : Scope} {it acc : Value} {A : Around} {s : Shared} {R : Result → Shared → Prop} (I : Nat → Shared → Prop)
    (turn : ∀ n s, I n s → wpAny g.M A (pyNext it) (fun r s₁ => match r with
      | none => R (.ok .next) s₁
      | some v => wpAny g.M A (letOwnedTupleGo target it v) (fun _ s₀ => wpAny g.M A (assign target env v) (fun _ s₂ =>
          wpAny g.M A (forIn ifs true fun c r => if r = true then do let ok ← isTrue c env (eval c env); pure (ForInStep.yield ok) else pure (ForInStep.yield r)) (fun ok s₃ =>
            if ok = true then wpAny g.M A (eval elt env) (fun x s₄ =>
              wpAny g.M A (call (.builtin "list.append") [acc, x]) (fun _ s₅ => ∃ m, m < n ∧ I m s₅) (fun _ _ => False) s₄) (fun _ _ => False) s₃
            else ∃ m, m < n ∧ I m s₃) (fun _ _ => False) s₂) (fun _ _ => False) s₀) (fun _ _ => False) s₁) (fun _ _ => False) s)
    (n : Nat) (h : I n s) : codeAny g.M A (.compLoop (.ListComp elt [⟨target, iter, ifs, 0⟩] scope pos) 0 it acc env) R s := by
  refine codeAny_loop rfl I (fun n s hI => ?_) n h
  show wpAny _ A ((compTurn (.ListComp elt [⟨target, iter, ifs, 0⟩] scope pos) 0 it acc env).onRaise (fun x => do noteFrame x env; theTreesLotGoes x)) _ _ s
  refine wpAny_noted ?_
  rw [compTurn_list]
  have no : ∀ {P : Prop}, False → P := fun x => x.elim
  refine wpAny_bind (wpAny_standAt (wpAny_bind (wpAny_mono (turn n s hI) (fun r s₁ h₁ => ?_) fun _ _ => no)))
  cases r with
  | none => exact wpAny_pure h₁
  | some v =>
    refine wpAny_bind (wpAny_mono h₁ (fun _ s₀ h₀ => ?_) fun _ _ => no)
    refine wpAny_bind (wpAny_mono h₀ (fun _ s₂ h₂ => wpAny_bind (wpAny_mono h₂ (fun ok s₃ h₃ => ?_) fun _ _ => no)) fun _ _ => no)
    cases ok with
    | false => exact wpAny_pure ⟨rfl, h₃⟩
    | true =>
      exact wpAny_bind (wpAny_bind (wpAny_mono h₃ (fun x s₄ h₄ => wpAny_bind (wpAny_mono h₄ (fun _ s₅ h₅ => wpAny_pure (wpAny_pure ⟨rfl, h₅⟩)) fun _ _ => no)) fun _ _ => no))
theorem letGo {t : Expr} {I : Addr} {v : Value} {A : Around} {s : Shared} {Q : Unit → Shared → Prop} {E : Value → Shared → Prop}
    (ho : ∃ o n, s.heap.get? I = some o ∧ o.cls = .type n ∧ (["enumerate", "zip", "dict_itemiterator", "dict_reverseitemiterator", "odict_iterator", "itertools.zip_longest", "itertools.pairwise"].contains n) = false) (k : Q () s) : wpAny g.M A (letOwnedTupleGo t (.ref I) v) Q E s := by
  obtain ⟨o, n, ho, hc, hn⟩ := ho
  unfold letOwnedTupleGo
  split
  · cases v <;> first | exact wpAny_pure k | skip
    refine wpAny_bind (wpAny_load ho ?_)
    rw [hc]
    cases o.data <;> first | exact wpAny_pure k | skip
    simp only [hn, Bool.false_and, Bool.false_eq_true, if_false]
    exact wpAny_pure k
  · cases v <;> first | exact wpAny_pure k | skip
    refine wpAny_bind (wpAny_load ho ?_)
    rw [hc]
    cases o.data <;> first | exact wpAny_pure k | skip
    simp only [hn, Bool.false_and, Bool.false_eq_true, if_false]
    exact wpAny_pure k
  · exact wpAny_pure k
end
noncomputable def cloopD (i : Nat) (T : Lo → AV → Option Lo) (t : Lo → AH → Option (Bool × AH)) (f : Lo → AH → Option (AV × AH)) (src : Src) : List PyData → Lo → AH → Option AH
  | [], _, H => some H
  | d :: r, lo, H => (T lo (.d d)).bind fun lo1 => (t lo1 H).bind fun p => if p.1 then (f lo1 p.2).bind fun q => (appO [.r i, q.1] q.2).bind fun z => guardD src z.2 (cloopD i T t f src r lo1 z.2) else guardD src p.2 (cloopD i T t f src r lo1 p.2)
noncomputable def compD (it : Lo → AH → Option (Src × AH)) (js : List Nat) (k : Nat) (T : Lo → AV → Option Lo) (t : Lo → AH → Option (Bool × AH)) (f : Lo → AH → Option (AV × AH)) (lo : Lo) (H : AH) : Option (AV × AH) :=
  (it lo H).bind fun p => (cloopD p.2.length T t f p.1 p.1.1 (capL js k lo) (p.2 ++ [[]])).map fun H' => (.r p.2.length, H')

section
variable {g : Gx} {c : Cx} {env : Env} {ns ns' : List Str} {pos : Pos} {as as' as'' : List Addr} {lo : Lo} {H H' : AH} {h h' h'' : Heap}

/-- what a comprehension's parts tell -/
structure CParts (g : Gx) (c : Cx) (env : Env) (ns ns' : List Str) (target elt : Expr) (ifs : List Expr) (scope : Scope) (cl : List (Str × Addr)) (js : List Nat) (T : Lo → AV → Option Lo) (t : Lo → AH → Option (Bool × AH)) (f : Lo → AH → Option (AV × AH)) : Prop where
  hcell : ∀ y ∈ scope.names, y.2 ≠ .cell
  hkind : scope.kind = .function
  hcl : ∀ p ∈ cl, p ∈ env.cells
  hclos : closureFor scope env = pure cl
  hnames : ∀ y ∈ scope.names, y.2 = .local → scope.names.lookup y.1 = some .local
  nd : ns'.Nodup
  cap : ∀ C, Cap env (compEnvC scope cl C env) ns ns' js
  parts : ∀ C, CEnv c (compEnvC scope cl C env) ns' → TG g c (compEnvC scope cl C env) ns' [C] (fun h => ∃ m, h.Ns C m) target T ∧ CTs g c (compEnvC scope cl C env) ns' ifs t ∧ SE g c (compEnvC scope cl C env) ns' elt f

theorem comp_core {target elt iter : Expr} {ifs : List Expr} {scope : Scope} {cl : List (Str × Addr)} {js : List Nat} {T : Lo → AV → Option Lo} {t : Lo → AH → Option (Bool × AH)} {f : Lo → AH → Option (AV × AH)} {k : Nat}
    (cp : CParts g c env ns ns' target elt ifs scope cl js T t f) (fe : FEnv c env ns) (hh : c.A.handled = none) {s : Shared} {I : Addr} {src : Src} {Sv : Nat → List Addr → AH → Heap → Prop} {E : Value → Shared → Prop} {RR : Value → Addr → Result → Shared → Prop}
    (P : Pre g c env ns as lo H s.heap) (It : Itr g c.A as H s.heap I src Sv) (hI0 : c.h₀.get? I = none) (e : cloopD H.length T t f src src.1 (capL js k lo) (H ++ [[]]) = some H')
    (hRR : ∀ as' D C h' tk m, Stp0 [I] as s.heap as' h' → (∀ b o, s.heap.get? b = some o → b ≠ I → ∃ o', h'.get? b = some o') → Pre g c env ns as' lo H' h' → as'[H.length]? = some D → s.heap.get? C = none → c.h₀.get? C = none → C ∉ Us c env → C ∉ as' → h'.Ns C m → RR (.ref D) C (.ok .next) { s with heap := h', toks := tk }) :
    wpAny g.M c.A (newList []) (fun acc s₃ => wpAny g.M c.A (newFunctionEnv scope env.globals cl [] env.qual none .none (some env)) (fun cenv s₄ =>
      codeAny g.M c.A (.compStart (.ListComp elt [⟨target, iter, ifs, 0⟩] scope pos) 0 (.ref I) acc { cenv with scope := relabel scope env }) (RR acc cenv.locals) s₄) E s₃) E s := by
  refine wpAny_newObj_type (wpAny_newFunctionEnv cp.hcell (by intro y hy; simp at hy) (fun h₁ hns₁ hsb₁ => ?_) cp.hkind)
  dsimp only at hns₁ hsb₁ ⊢
  have nIU := It.notUs P
  have nIA := It.notAs P.hr
  have hD : s.heap.get? s.heap.objs.size = none := size_none
  generalize hH2 : s.heap.push { cls := .type "list", dict := none, data := .seq ([] : List Value).toArray } = H2 at hns₁ hsb₁ ⊢
  have hC : H2.objs.size = s.heap.objs.size + 1 := by rw [← hH2, Heap.size_push]
  have hDC : s.heap.objs.size ≠ H2.objs.size := by rw [hC]; exact Nat.ne_of_lt (Nat.lt_succ_self _)
  have hCn : H2.get? H2.objs.size = none := size_none
  have hCs : s.heap.get? H2.objs.size = none := by
    cases e : s.heap.get? H2.objs.size with
    | none => rfl
    | some o => have := Heap.get?_push_of_some ({ cls := .type "list", dict := none, data := .seq ([] : List Value).toArray } : Obj) e; rw [hH2, hCn] at this; cases this
  have k1 : ∀ b o, H2.get? b = some o → h₁.get? b = some o := fun b o e => by
    have ne : b ≠ H2.objs.size := fun z => by rw [z, hCn] at e; cases e
    exact hsb₁.extBut b o ne (Heap.get?_push_of_some _ e)
  have tr : HR (as ++ [s.heap.objs.size]) (H ++ [[]]) H2 := hH2 ▸ P.hr.track (vs := []) rfl .nil (fun _ m => (nomatch m)) 0
  have st0 : Stp [] as s.heap (as ++ [s.heap.objs.size]) H2 := hH2 ▸ stp_track _
  have po1 : Post (as ++ [s.heap.objs.size]) H2 (as ++ [s.heap.objs.size]) (H ++ [[]]) h₁ := post_keeps tr k1
  have po : Post as s.heap (as ++ [s.heap.objs.size]) (H ++ [[]]) h₁ := ⟨st0.trans po1.st, po1.hr⟩
  have P1 := P.step po
  have hC0 : c.h₀.get? H2.objs.size = none := by
    cases e : c.h₀.get? H2.objs.size with
    | none => rfl
    | some o => obtain ⟨m, F⟩ := P.ok.F; have := F.keep _ o e; rw [hCs] at this; cases this
  have neL : c.L ≠ H2.objs.size := fun z => by obtain ⟨m, F⟩ := P.ok.F; obtain ⟨o, _, _, ho, _⟩ := F.ns; rw [z, hCs] at ho; cases ho
  have neI : I ≠ H2.objs.size := fun z => by obtain ⟨o, ho, _⟩ := It.self; rw [z, hCs] at ho; cases ho
  have nCcell : ∀ p ∈ env.cells, p.2 ≠ H2.objs.size := fun p hp z => by obtain ⟨_, w, o, ho, _⟩ := P.cl p hp; rw [z, hCs] at ho; cases ho
  have nCU : H2.objs.size ∉ Us c env := fun m => by
    rcases List.mem_cons.mp m with z | m
    · exact neL z.symm
    · obtain ⟨p, hp, z⟩ := List.mem_map.mp m; exact nCcell p hp z
  have ce : CEnv c (compEnvC scope cl H2.objs.size env) ns' := ⟨⟨fe.gl, fe.bu, cp.hkind⟩, cp.nd, neL, hC0⟩
  obtain ⟨hT, hts, hel⟩ := cp.parts _ ce
  have P1' : Pre g c (compEnvC scope cl H2.objs.size env) ns' (as ++ [s.heap.objs.size]) (capL js k lo) (H ++ [[]]) h₁ :=
    ⟨P1.ok, P1.lo.cap (cp.cap _) cp.hkind, P1.hr, fun p hp => P1.cl p (cp.hcl p hp)⟩
  have off : Off c env [I, H2.objs.size] := by
    have go : ∀ b ∈ ([I, H2.objs.size] : List Addr), b ∉ Us c env ∧ c.h₀.get? b = none := fun b hb => by
      rcases List.mem_cons.mp hb with rfl | hb
      · exact ⟨nIU, hI0⟩
      · rw [List.mem_singleton.mp hb]; exact ⟨nCU, hC0⟩
    exact ⟨fun z => (go _ z).1 (.head _), fun z => (go _ z).1 (fe.loc ▸ .head _), fun p hp z => (go _ z).1 (.tail _ (List.mem_map_of_mem (f := fun q : Str × Addr => q.2) hp)), fun b z => (go b z).2⟩
  have off' : Off c (compEnvC scope cl H2.objs.size env) [I] :=
    ⟨fun z => off.L (by rw [List.mem_singleton.mp z]; exact .head _), fun z => neI (List.mem_singleton.mp z).symm, fun p hp z => off.cell p (cp.hcl p hp) (by rw [List.mem_singleton.mp z]; exact .head _), fun b z => by rw [List.mem_singleton.mp z]; exact hI0⟩
  have S0 : Sv 0 (as ++ [s.heap.objs.size]) (H ++ [[]]) h₁ := It.frame _ _ _ _ _ _ _ [] It.st P.hr po.hr List.not_mem_nil nIA po.st fun i hi => by
    have := It.ok i hi
    rw [List.getElem?_append_left (List.getElem?_eq_some_iff.mp this).1]; exact this
  have nIA1 : I ∉ as ++ [s.heap.objs.size] := by obtain ⟨o, ho, _⟩ := It.self; exact po.st.out ho nIA
  have iD : (as ++ [s.heap.objs.size])[H.length]? = some s.heap.objs.size := by rw [← P.hr.len]; simp
  suffices loop : ∀ s₃ : Shared, s₃ = { s with heap := h₁, toks := s.toks + ([] : List (Str × Value)).length } →
      codeAny g.M c.A (.compLoop (.ListComp elt [⟨target, iter, ifs, 0⟩] scope pos) 0 (.ref I) (.ref s.heap.objs.size) (compEnvC scope cl H2.objs.size env))
        (RR (.ref s.heap.objs.size) H2.objs.size) s₃ from codeAny_compStart_list (loop _ rfl) (It.again 0 _ _ _ _ _ S0 (loop _ rfl))
  rintro s₃ rfl
  refine comp_loop (fun n s' => ∃ j as1 lo1 H1 h1 tk1, s' = { s with heap := h1, toks := tk1 } ∧ n + j = src.1.length + 1 ∧ j ≤ src.1.length ∧ Stp [I, H2.objs.size] (as ++ [s.heap.objs.size]) h₁ as1 h1 ∧ Pre g c (compEnvC scope cl H2.objs.size env) ns' as1 lo1 H1 h1 ∧ (∃ m, h1.Ns H2.objs.size m) ∧ Sv j as1 H1 h1 ∧ cloopD H.length T t f src (src.1.drop j) lo1 H1 = some H')
    ?_ (src.1.length + 1) ⟨0, _, _, _, h₁, _, rfl, rfl, Nat.zero_le _, .refl, P1', ⟨_, hns₁⟩, S0, e⟩
  rintro n s' ⟨j, as1, lo1, H1, h1, tk1, rfl, hn, hj, st1, Q1, ⟨mC, nsC⟩, S1, q⟩
  have nAs1 : I ∉ as1 := by obtain ⟨o, ho, _⟩ := It.self; exact st1.out (k1 _ _ (hH2 ▸ Heap.get?_push_of_some _ ho)) nIA1
  by_cases hlt : j < src.1.length
  · refine It.item j as1 H1 _ _ _ hlt Q1.hr nAs1 S1 fun v h2 tk2 d hd rv S2 hk2 => ?_
    obtain ⟨oI, hoI, hsI⟩ := It.nseq (j + 1) as1 H1 h2 S2
    have st2 : Stp [I] as1 h1 as1 h2 := ⟨List.prefix_refl _, fun _ a1 a2 => absurd a1 a2, fun b o e n u => by
      by_cases hb : b = I
      · subst hb; obtain ⟨o', ho', hi'⟩ := It.nseq j as1 H1 h1 S1
        rw [e] at ho'; cases ho'; rw [u (.head _)] at hi'; cases hi'
      · exact hk2 b o (fun z => hb (List.mem_singleton.mp z)) e, fun b o e => by
      by_cases hb : b = I
      · subst hb; exact ⟨_, hoI⟩
      · exact ⟨o, hk2 b o (fun z => hb (List.mem_singleton.mp z)) e⟩⟩
    have hr2 : HR as1 H1 h2 := Q1.hr.step st2.to0 fun a ha o e => hk2 a o (fun z => nAs1 (List.mem_singleton.mp z ▸ ha)) e
    have Q2 : Pre g c (compEnvC scope cl H2.objs.size env) ns' as1 lo1 H1 h2 := Q1.stepU st2.to0 hr2 off'
    have nsC2 : h2.Ns H2.objs.size mC := ns_keep nsC Q1.hr st2.to0 fun z => neI (List.mem_singleton.mp z).symm
    have wk : ∀ {V as2 h2' as3 h3}, Stp V as2 h2' as3 h3 → (∀ x ∈ V, x ∈ ([I, H2.objs.size] : List Addr)) → Stp [I, H2.objs.size] as2 h2' as3 h3 := fun st hV => st.weaken hV
    have st12 : Stp [I, H2.objs.size] (as ++ [s.heap.objs.size]) h₁ as1 h2 := st1.trans (wk st2 fun x hx => by rw [List.mem_singleton.mp hx]; exact .head _)
    refine letGo (It.own _ as1 H1 h2 S2) ?_
    have rv2 : VR h2 as1 v (.d d) := rv.step Q1.hr st2
    have ed : src.1.drop j = d :: src.1.drop (j + 1) := by
      obtain ⟨_, e⟩ := List.getElem?_eq_some_iff.mp hd
      rw [← e]; exact List.drop_eq_getElem_cons hlt
    rw [ed] at q
    obtain ⟨lo2, e1, q⟩ := Option.bind_eq_some_iff.mp q
    obtain ⟨⟨ok, H3⟩, e2, q⟩ := Option.bind_eq_some_iff.mp q
    refine hT as1 lo1 H1 _ _ _ v (.d d) lo2 hh Q2 ⟨_, nsC2⟩ rv2 e1 fun h3 tk3 st3 Q3 iv3 => ?_
    refine hts as1 lo2 H1 _ _ _ ok H3 Q3 e2 fun as4 h4 tk4 po4 => ?_
    have Q4 := Q3.step po4
    have iv4 : ∃ m, h4.Ns H2.objs.size m := iv3.imp fun m x => ns_keep x Q3.hr po4.st.to0 (fun z => (nomatch z))
    have st24 : Stp [H2.objs.size] as1 h2 as4 h4 := st3.trans po4.up
    have fin : ∀ {as5 H5 h5}, Stp [H2.objs.size] as1 h2 as5 h5 → HR as5 H5 h5 → okG src H5 → Stp [I, H2.objs.size] (as ++ [s.heap.objs.size]) h₁ as5 h5 ∧ Sv (j + 1) as5 H5 h5 := fun {as5 H5 h5} st hr5 og =>
      ⟨st12.trans (wk st fun x hx => by rw [List.mem_singleton.mp hx]; exact .tail _ (.head _)), It.frame _ _ _ _ _ _ _ _ S2 hr2 hr5 (fun z => neI (List.mem_singleton.mp z)) nAs1 st og⟩
    cases ok with
    | false =>
      simp only [Bool.false_eq_true, if_false] at q ⊢
      obtain ⟨q, og⟩ := guardD_eq q
      obtain ⟨a1, a2⟩ := fin st24 Q4.hr og
      exact ⟨n - 1, by omega, j + 1, as4, lo2, H3, h4, tk4, rfl, by omega, by omega, a1, Q4, iv4, a2, q⟩
    | true =>
      simp only [if_true] at q ⊢
      obtain ⟨⟨x, H5⟩, e3, q⟩ := Option.bind_eq_some_iff.mp q
      obtain ⟨⟨z, H6⟩, e4, q⟩ := Option.bind_eq_some_iff.mp q
      refine hel as4 lo2 H3 _ _ _ x H5 Q4 e3 fun as5 u h5 tk5 po5 v5 => ?_
      have Q5 := Q4.step po5
      have ivD : as5[H.length]? = some s.heap.objs.size := by
        obtain ⟨r1, hr1⟩ := (st12.trans ((wk st24 fun x hx => by rw [List.mem_singleton.mp hx]; exact .tail _ (.head _)).trans po5.up)).pre
        rw [← hr1, List.getElem?_append_left (List.getElem?_eq_some_iff.mp iD).1]; exact iD
      refine b_append c.A as5 H5 _ _ _ [.ref s.heap.objs.size, u] [.r H.length, x] z H6 Q5.ok.un Q5.hr (.cons ⟨_, rfl, ivD⟩ (.cons v5 .nil)) e4 fun as6 w h6 tk6 po6 v6 => ?_
      have Q6 := Q5.step po6
      obtain ⟨q, og⟩ := guardD_eq q
      obtain ⟨a1, a2⟩ := fin ((st24.trans po5.up).trans po6.up) Q6.hr og
      exact ⟨n - 1, by omega, j + 1, as6, lo2, H6, h6, tk6, rfl, by omega, by omega, a1, Q6, iv4.imp fun m x => ns_keep (ns_keep x Q4.hr po5.st.to0 (fun z => (nomatch z))) Q5.hr po6.st.to0 (fun z => (nomatch z)), a2, q⟩
  · have hj' : j = src.1.length := by omega
    subst hj'
    rw [List.drop_length] at q
    cases q
    refine It.done as1 _ _ _ _ Q1.hr S1 fun h2 tk2 hk2 => ?_
    obtain ⟨oI, hoI, hsI⟩ := It.nseq _ as1 _ h1 S1
    have st2 : Stp0 [I] as1 h1 as1 h2 := ⟨List.prefix_refl _, fun _ a1 a2 => absurd a1 a2, fun b o e n u => by
      by_cases hb : b = I
      · subst hb; rw [e] at hoI; cases hoI; rw [u (.head _)] at hsI; cases hsI
      · exact hk2 b o (fun z => hb (List.mem_singleton.mp z)) e⟩
    have hr2 : HR as1 H' h2 := Q1.hr.step st2 fun a ha o e => hk2 a o (fun z => nAs1 (List.mem_singleton.mp z ▸ ha)) e
    have neq : ∀ b o, s.heap.get? b = some o → b ≠ H2.objs.size := fun b o e z => by rw [z, hCs] at e; cases e
    have sr : Stp0 [I] as s.heap as1 h2 := by
      refine ⟨po.st.pre.trans st1.pre, fun a ha hn' => ?_, fun b o e n u => ?_⟩
      · by_cases hm : a ∈ as ++ [s.heap.objs.size]
        · exact po.st.new a hm hn'
        · have q := st1.new a ha hm
          cases e : s.heap.get? a with
          | none => rfl
          | some o => obtain ⟨o', e'⟩ := po.st.dom a o e; rw [q] at e'; cases e'
      · have e1 := po.st.keep b o e n fun z => (nomatch z)
        have n1 := po.st.out e n
        have e2 := st1.keep b o e1 n1 fun z => (List.mem_cons.mp z).elim (fun z => u (List.mem_singleton.mpr z)) fun z => absurd (List.mem_singleton.mp z) (neq b o e)
        by_cases hb : b = I
        · subst hb; exact st2.keep _ o e2 nAs1 fun z => u z
        · exact hk2 b o (fun z => hb (List.mem_singleton.mp z)) e2
    refine hRR as1 _ _ h2 tk2 mC sr (fun b o e hb => ?_) (P.stepU sr hr2 ⟨fun z => off.L (by rw [List.mem_singleton.mp z]; exact .head _), fun z => off.loc (by rw [List.mem_singleton.mp z]; exact .head _), fun p hp z => off.cell p hp (by rw [List.mem_singleton.mp z]; exact .head _), fun b z => off.base b (by rw [List.mem_singleton.mp z]; exact .head _)⟩) ?_ hCs hC0 nCU ?_ ?_
    · obtain ⟨o', e'⟩ := po.st.dom b o e
      obtain ⟨o2, e2⟩ := st1.dom b o' e'
      exact ⟨o2, hk2 b o2 (fun z => hb (List.mem_singleton.mp z)) e2⟩
    · obtain ⟨r1, hr1⟩ := st1.pre
      rw [← hr1, List.getElem?_append_left (List.getElem?_eq_some_iff.mp iD).1]; exact iD
    · obtain ⟨o, es, ep, ho, hd, _⟩ := nsC
      exact Q1.hr.notDict ho (by unfold seqy; rw [hd])
    · exact ns_keep nsC Q1.hr st2 fun z => neI (List.mem_singleton.mp z).symm

theorem sb_stp0 {C : Addr} {m : Str → Option Value} (hC : h.Ns C m) (hs : Heap.SameBut C h h') : Stp0 [C] as h as h' := by
  refine ⟨List.prefix_refl _, fun _ a1 a2 => absurd a1 a2, fun b o e n u => ?_⟩
  by_cases hb : b = C
  · subst hb
    obtain ⟨o', _, _, ho', hd, _⟩ := hC
    rw [e] at ho'; cases ho'
    have q := u (.head _)
    unfold seqy at q; rw [hd] at q; cases q
  · rw [hs.2 b hb]; exact e
theorem sb_hr {C : Addr} {m : Str → Option Value} (hC : h.Ns C m) (hs : Heap.SameBut C h h') (hn : C ∉ as) (hr : HR as H h) : HR as H h' :=
  hr.step (sb_stp0 (as := as) hC hs) fun a ha o e => by rw [hs.2 a fun z => hn (z ▸ ha)]; exact e
theorem comp_end {as0 : List Addr} {H1 : AH} {h0 : Heap} {I C : Addr} {m : Str → Option Value} (P0 : Post as h as0 H1 h0) (hI : h.get? I = none) (st : Stp0 [I] as0 h0 as' h') (dm : ∀ b o, h0.get? b = some o → b ≠ I → ∃ o', h'.get? b = some o') (hr : HR as' H' h')
    (hC0 : h0.get? C = none) (hCn : C ∉ as') (hC : h'.Ns C m) (hs : Heap.SameBut C h' h'') : Post as h as' H' h'' := by
  have nI : ∀ b o, h.get? b = some o → b ≠ I := fun b o e z => by rw [z, hI] at e; cases e
  have nC : ∀ b o, h0.get? b = some o → b ≠ C := fun b o e z => by rw [z, hC0] at e; cases e
  refine ⟨⟨P0.st.pre.trans st.pre, fun a ha hn => ?_, fun b o e n _ => ?_, fun b o e => ?_⟩, sb_hr hC hs hCn hr⟩
  · by_cases hm : a ∈ as0
    · exact P0.st.new a hm hn
    · have q := st.new a ha hm
      cases e : h.get? a with
      | none => rfl
      | some o => obtain ⟨o', e'⟩ := P0.st.dom a o e; rw [q] at e'; cases e'
  · have e1 := P0.st.keep b o e n fun z => (nomatch z)
    rw [hs.2 b (nC b o e1)]
    exact st.keep b o e1 (P0.st.out e n) fun z => absurd (List.mem_singleton.mp z) (nI b o e)
  · obtain ⟨o', e'⟩ := P0.st.dom b o e
    obtain ⟨o2, e2⟩ := dm b o' e' (nI b o e)
    exact ⟨o2, by rw [hs.2 b (nC b o' e')]; exact e2⟩

theorem base_none (P : Pre g c env ns as lo H h) {I : Addr} (hI : h.get? I = none) : c.h₀.get? I = none := by
  cases e : c.h₀.get? I with
  | none => rfl
  | some o => obtain ⟨m, F⟩ := P.ok.F; have := F.keep I o e; rw [hI] at this; cases this

theorem SE.comp {target elt iter : Expr} {ifs : List Expr} {scope : Scope} {cl : List (Str × Addr)} {js : List Nat} {T : Lo → AV → Option Lo} {t : Lo → AH → Option (Bool × AH)} {f : Lo → AH → Option (AV × AH)} {fi : Lo → AH → Option (Src × AH)} (k : Nat)
    (cp : CParts g c env ns ns' target elt ifs scope cl js T t f) (fe : FEnv c env ns) (hh : c.A.handled = none) (hi : SIt g c env ns iter fi) (hs : ∀ x, foldedSetIterable iter env x = pure x := by intro _; rfl) :
    SE g c env ns (.ListComp elt [⟨target, iter, ifs, 0⟩] scope pos) (compD fi js k T t f) := by
  intro as lo H s Q E v H' P q kk
  unfold compD at q
  obtain ⟨⟨src, H1⟩, e1, q⟩ := Option.bind_eq_some_iff.mp q
  obtain ⟨H2, e2, q⟩ := Option.map_eq_some_iff.mp q
  cases q
  rw [eval_ListComp]
  refine wpAny_comprehension_free (use := none) rfl hs cp.hclos cp.hkind cp.hnames (hi as lo H s _ _ src H1 hh P e1 fun as0 I h0 tk0 Sv P0 hIn It => ?_)
  refine comp_core (RR := fun acc C => compPost g.M c.A E none Q acc C) (k := k) cp fe hh (P.step P0) It (base_none P hIn) e2 fun as' D C h' tk m st dm P2 iD hCs hC0 hCU hCA hC => ?_
  refine ⟨m, hC, fun h'' hs'' => ?_⟩
  exact kk as' (.ref D) h'' tk (comp_end P0 hIn st dm P2.hr hCs hCA hC hs'') ⟨D, rfl, iD⟩

theorem SX.assignComp {y : Str} {i : Nat} {py : Pos} {target elt iter : Expr} {ifs : List Expr} {scope : Scope} {spos : Pos} {cl : List (Str × Addr)} {js : List Nat} {T : Lo → AV → Option Lo} {t : Lo → AH → Option (Bool × AH)} {f : Lo → AH → Option (AV × AH)} {fi : Lo → AH → Option (Src × AH)} (k : Nat)
    (cp : CParts g c env ns ns' target elt ifs scope cl js T t f) (fe : FEnv c env ns) (hh : c.A.handled = none) (hi : SIt g c env ns iter fi) (hy : ns[i]? = some y) (hk : env.kindOf y = some .local := by rfl) (hs : ∀ x, foldedSetIterable iter env x = pure x := by intro _; rfl)
    (hsw : swapsWith (.ListComp elt [⟨target, iter, ifs, 0⟩] scope pos) (some (.Name y py)) spos.line env = pure true := by rfl) :
    SX g c env ns (.Assign [.Name y py] (.ListComp elt [⟨target, iter, ifs, 0⟩] scope pos) spos) (setD i (compD fi js k T t f)) := by
  intro as lo H s Q E fl lo' H' P q kk
  obtain ⟨⟨v, H0⟩, e0, q⟩ := Option.map_eq_some_iff.mp q
  cases q
  unfold compD at e0
  obtain ⟨⟨src, H1⟩, e1, q⟩ := Option.bind_eq_some_iff.mp e0
  obtain ⟨H2, e2, q⟩ := Option.map_eq_some_iff.mp q
  cases q
  rw [exec_Assign_Name_used _ _ _ _ hsw]
  refine wpAny_bind (wpAny_standAt (wpAny_bind ?_))
  show wpAny _ c.A (do let _ ← comprehension (.ListComp elt [⟨target, iter, ifs, 0⟩] scope pos) scope env _ (newList []) false (eval iter env) (some (PySem.assign (.Name y py) env))) _ _ s
  refine wpAny_bind (wpAny_mono (wpAny_comprehension_free (use := some (PySem.assign (.Name y py) env)) (Q := fun _ s' => Q .next s') rfl hs cp.hclos cp.hkind cp.hnames
    (hi as lo H s _ _ src H1 hh P e1 fun as0 I h0 tk0 Sv P0 hIn It => ?_)) (fun _ s' hq => wpAny_pure (wpAny_pure hq)) fun _ _ e => e)
  refine comp_core (RR := fun acc C => compPost g.M c.A _ (some (PySem.assign (.Name y py) env)) (fun _ s' => Q .next s') acc C) (k := k) cp fe hh (P.step P0) It (base_none P hIn) e2 fun as' D C h' tk m st dm P2 iD hCs hC0 hCU hCA hC => ?_
  show wpAny _ c.A (PySem.assign (.Name y py) env (.ref D)) _ _ _
  refine wpAny_assign_Name (store_local fe hy hk P2 (show VR h' as' (.ref D) (.r H1.length) from ⟨D, rfl, iD⟩) fun h2 tk2 st2 P3 => ?_)
  have hC2 : h2.Ns C m := ns_keep hC P2.hr st2.to0 hCU
  refine ⟨m, hC2, fun h3 hs3 => ?_⟩
  have hr3 := sb_hr hC2 hs3 hCA P3.hr
  have P4 : Pre g c env ns as' (lo.set i (some (.r H1.length))) H0 h3 := P3.stepU (sb_stp0 hC2 hs3) hr3
    ⟨fun z => hCU (by rw [← List.mem_singleton.mp z]; exact .head _), fun z => hCU (by rw [← List.mem_singleton.mp z]; exact fe.loc ▸ .head _), fun p hp z => hCU (by rw [← List.mem_singleton.mp z]; exact .tail _ (List.mem_map_of_mem (f := fun q : Str × Addr => q.2) hp)), fun b z => by rw [List.mem_singleton.mp z]; exact hC0⟩
  have nI : ∀ b o, s.heap.get? b = some o → b ≠ I := fun b o e z => by rw [z, hIn] at e; cases e
  have nC : ∀ b o, h0.get? b = some o → b ≠ C := fun b o e z => by rw [z, hCs] at e; cases e
  refine kk as' .next h3 tk2 ⟨P0.st.pre.trans st.pre, fun a ha hn => ?_, fun b o e n u => ?_, fun b o e => ?_⟩ P4 trivial
  · by_cases hm : a ∈ as0
    · exact P0.st.new a hm hn
    · have q := st.new a ha hm
      cases e : s.heap.get? a with
      | none => rfl
      | some o => obtain ⟨o', e'⟩ := P0.st.dom a o e; rw [q] at e'; cases e'
  · have e1 := P0.st.keep b o e n fun z => (nomatch z)
    have n1 := P0.st.out e n
    have e2 := st.keep b o e1 n1 fun z => absurd (List.mem_singleton.mp z) (nI b o e)
    have n2 : b ∉ as' := fun z => by have := st.new b z n1; rw [e1] at this; cases this
    rw [hs3.2 b (nC b o e1)]
    exact st2.keep b o e2 n2 u
  · obtain ⟨o', e'⟩ := P0.st.dom b o e
    obtain ⟨o2, e2⟩ := dm b o' e' (nI b o e)
    obtain ⟨o3, e3⟩ := st2.dom b o2 e2
    exact ⟨o3, by rw [hs3.2 b (nC b o' e')]; exact e3⟩
end
section
variable {g : Gx} {c : Cx} {env : Env} {ns ns' : List Str} {pos : Pos} {as as' as'' : List Addr} {lo : Lo} {H H' : AH} {h h' h'' : Heap}

/-- the callee's frame -/
abbrev Cx.into (c : Cx) (env' : Env) (L' : Addr) (h : Heap) (as : List Addr) : Cx := ⟨c.A.deeper env', env', c.fenv :: c.outer, c.A, c.base, hideAll h as, L', c.lv - 1⟩
theorem Ok.into {s : Shared} (K0 : Ok g c as s.heap) (hr : HR as H s.heap) (hd : 1 ≤ c.lv) {env' : Env} {L' : Addr} {h₁ : Heap} {m : Str → Option Value} (hf : env'.frame = some L') (hk : env'.scope.kind = .function) (hL : L' = s.heap.objs.size) (hN : h₁.Ns L' m) (hkeep : ∀ b o, s.heap.get? b = some o → h₁.get? b = some o) : Ok g (c.into env' L' s.heap as) as h₁ := by
  obtain ⟨mF, F⟩ := K0.F
  obtain ⟨news, hnm, N⟩ := K0.news hr
  obtain ⟨FG, BG, st, _⟩ := groundX (R := fun _ _ => True) K0.B F N K0.fr K0.ff K0.fk
  rw [hnm] at FG BG st
  exact ⟨BG, K0.T.keeps st, K0.Tb, Around.frames_deeper K0.fr, hf, hk, by show c.A.depth + 1 + (c.lv - 1) < _; have := K0.room; omega, by show c.A.units + 3 + 200 + 10 * (c.lv - 1) < _; have := K0.units; omega,
    ⟨_, hN, fun b o e => hkeep b o (of_hideAll _ e), by subst hL; exact Nat.le_of_eq (hideAll_size _ _)⟩, fun a ha => hideAll_none _ ha⟩
theorem endD_flow {fl : AF} {lo' : Lo} {z : AV} {f : Flow} (e : endD (fl, lo', H) = some (z, H')) : FR h as f fl → H' = H ∧ VR h as (match f with | .ret v => v | _ => .none) z := by
  intro hf
  unfold endD at e
  cases fl with
  | ret v => cases e; cases f <;> first | exact hf.elim | exact ⟨rfl, hf⟩
  | next => cases e; cases f <;> first | exact hf.elim | exact ⟨rfl, .none⟩
  | brk => cases e
  | cont => cases e

theorem bindL_get {kf : Str → Option NameKind} {x : Str} {v : Value} : ∀ {b : List (Str × Value)} {m : Str → Option Value}, (b.map (·.1)).Nodup → (x, v) ∈ b → kf x = some .local → bindL kf b m x = some v
  | (y, u) :: r, m, hn, hm, hk => by
    simp only [List.map_cons, List.nodup_cons] at hn
    unfold bindL
    rcases List.mem_cons.mp hm with e | hm
    · cases e
      rw [if_pos hk]
      have : ∀ (r : List (Str × Value)) (m : Str → Option Value), x ∉ r.map (·.1) → m x = some v → bindL kf r m x = some v := by
        intro r
        induction r with
        | nil => intro m _ e; exact e
        | cons p r ih =>
          intro m hn e
          obtain ⟨p1, p2⟩ := p
          simp only [List.map_cons, List.mem_cons, not_or] at hn
          unfold bindL
          refine ih _ hn.2 ?_
          split
          · simp only [if_neg hn.1]; exact e
          · exact e
      exact this r _ hn.1 (by simp)
    · exact bindL_get hn.2 hm hk
theorem bindC_get {kf : Str → Option NameKind} {x : Str} {v : Value} : ∀ {b : List (Str × Value)} {m : Str → Option Value}, (b.map (·.1)).Nodup → (x, v) ∈ b → kf x ≠ some .local → bindC kf b m x = some v
  | (y, u) :: r, m, hn, hm, hk => by
    simp only [List.map_cons, List.nodup_cons] at hn
    unfold bindC
    rcases List.mem_cons.mp hm with e | hm
    · cases e
      rw [if_neg hk]
      have : ∀ (r : List (Str × Value)) (m : Str → Option Value), x ∉ r.map (·.1) → m x = some v → bindC kf r m x = some v := by
        intro r
        induction r with
        | nil => intro m _ e; exact e
        | cons p r ih =>
          intro m hn e
          obtain ⟨p1, p2⟩ := p
          simp only [List.map_cons, List.mem_cons, not_or] at hn
          unfold bindC
          refine ih _ hn.2 ?_
          split
          · exact e
          · simp only [if_neg hn.1]; exact e
      exact this r _ hn.1 (by simp)
    · exact bindC_get hn.2 hm hk
theorem mem_zip_of {ps : List Str} {vs : List Value} {i : Nat} {x : Str} {v : Value} (h1 : ps[i]? = some x) (h2 : vs[i]? = some v) : (x, v) ∈ ps.zip vs :=
  List.mem_of_getElem? (i := i) (by rw [List.getElem?_zip_eq_some]; exact ⟨h1, h2⟩)

/-- a def whose names are in part cells -/
theorem CF.of_bodyC {d : DefRec} {ps ns : List Str} {k n : Nat} {hn : Bool} {G : Den} (hd : d ∈ recsOf g.p) (hb : ∀ (vs : List Value) (pm cd doc : Value), vs.length = ps.length → bindArgs (docDef d.name d.params d.body d.scope pm cd doc) ⟨vs, []⟩ = pure (ps.zip vs))
    (hp : ∀ y ∈ ps, ∀ q, d.scope.names.lookup y = some .local ∨ (d.scope.names.lookup y = some .cell ∧ ((cellsFrom q d.scope.names []).lookup y).isSome = true)) (hns : ns.Nodup) (hpre : ps <+: ns) (hnd : ∀ q, ((cellsFrom q d.scope.names []).map (·.2)).Nodup)
    (hco : d.scope.isCoroutine = false) (hgen : d.scope.isGenerator = false) (hk : d.scope.kind = .function) (hmem : ∀ q, ∀ p ∈ cellsFrom q d.scope.names [], (cellsFrom q d.scope.names []).lookup p.1 = some p.2)
    (hG : ∀ (c : Cx) (a L : Addr) (cd : Value), n ≤ c.lv → (hn = true → c.A.handled = none) → FEnv c (envOfC d.name d.scope L a cd) ns → SS g c (envOfC d.name d.scope L a cd) ns d.body G) : CF g d.name (n + 1) hn (bodyD ps.length k G) := by
  intro a c as H s Q E vs xs z H' hx K0 hlv hh hr hv e q
  unfold bodyD at e
  split at e
  case isFalse => cases e
  rename_i hlenx
  obtain ⟨⟨fl, lo', H1⟩, e1, e2⟩ := Option.bind_eq_some_iff.mp e
  obtain ⟨m, F⟩ := K0.F
  obtain ⟨a', o, pm, code, doc, h1, h2, h3, h4⟩ := K0.fn hd
  rw [hx] at h1; cases h1
  have hvl : vs.length = ps.length := by rw [hv.len, hlenx]
  have hpn : ps.Nodup := List.Nodup.sublist hpre.sublist hns
  have hzn : ((ps.zip vs).map (·.1)).Nodup := by rw [List.map_fst_zip (by omega)]; exact hpn
  refine wpAny_call (codeAny_call_function (fd := docDef d.name d.params d.body d.scope pm code doc) (body := d.body) (by have := K0.room; omega) h2 h3 hco hgen rfl h4 ?_)
  rw [hb vs pm code doc hvl]
  refine wpAny_pure (wpAny_newFunctionEnv_cells hk (fun y hy => hp _ (List.of_mem_zip hy).1 _) fun env' he s' x => ?_)
  subst he
  refine ⟨(K0.T.nolimit.keeps F.keep).keeps x.toInCall.keep, codeAny_func ?_⟩
  obtain ⟨h₁, tk, rfl, hkeep⟩ := x.done
  show wpAny g.M (c.A.deeper (envOfC d.name d.scope s.heap.objs.size a code)) (execs d.body (envOfC d.name d.scope s.heap.objs.size a code)) _ _ _
  have hNs := x.toInCall.ns
  have hcell := x.cell
  have habove := x.above
  have st0 : Stp [] as s.heap as h₁ := ⟨List.prefix_refl _, fun _ h1 h2 => absurd h1 h2, fun b o e _ _ => hkeep b o e, fun b o e => ⟨o, hkeep b o e⟩⟩
  have hr1 : HR as H h₁ := hr.step st0.to0 fun a _ o e => hkeep a o e
  have hlo : LO (envOfC d.name d.scope s.heap.objs.size a code) ns (xs.map some ++ List.replicate k none) as h₁ := by
    intro i y v e1 e2
    by_cases hi : i < xs.length
    · rw [List.getElem?_append_left (by simpa using hi), List.getElem?_map] at e2
      obtain ⟨y', e3, e4⟩ := Option.map_eq_some_iff.mp e2
      cases e4
      obtain ⟨u, e5, r⟩ := hv.get e3
      have e6 : ps[i]? = some y := by
        obtain ⟨t, ht⟩ := hpre
        rw [← ht, List.getElem?_append_left (by omega)] at e1; exact e1
      have hzm : (y, u) ∈ ps.zip vs := mem_zip_of e6 e5
      refine ⟨hk, u, r.step hr st0, ?_⟩
      rcases hp y (List.mem_of_getElem? e6) (s.heap.objs.size + 1) with hl | ⟨hl, hs⟩
      · exact .inl ⟨hl, _, hNs, bindL_get hzn hzm hl⟩
      · obtain ⟨ca, hca⟩ := Option.isSome_iff_exists.mp hs
        refine .inr ⟨hl, ca, hca, ?_⟩
        have ne : (envOfC d.name d.scope s.heap.objs.size a code).kindOf y ≠ some .local := by show d.scope.names.lookup y ≠ _; rw [hl]; decide
        rw [show (some u : Option Value) = bindC (envOfC d.name d.scope s.heap.objs.size a code).kindOf (ps.zip vs) (fun _ => none) y from (bindC_get hzn hzm ne).symm]
        exact hcell y ca hca
    · rw [List.getElem?_append_right (by simpa using hi)] at e2
      have := List.mem_of_getElem? e2
      rw [List.mem_replicate] at this
      cases this.2
  have K1 : Ok g (c.into (envOfC d.name d.scope s.heap.objs.size a code) s.heap.objs.size s.heap as) as h₁ := K0.into hr (by omega) rfl hk rfl hNs hkeep
  refine hG (c.into (envOfC d.name d.scope s.heap.objs.size a code) s.heap.objs.size s.heap as) a s.heap.objs.size code (by show n ≤ c.lv - 1; omega) hh ⟨⟨rfl, rfl, hk⟩, rfl, rfl, hns, hnd _⟩ as _ H { s with heap := h₁, toks := tk } _ _ fl lo' H1 ⟨K1, hlo, hr1, fun p hp' => ⟨?_, ?_⟩⟩ e1 fun as2 f h2 tk2 st2 P2 hf => ?_
  · cases e : (hideAll s.heap as).get? p.2 with
    | none => rfl
    | some o =>
      have h5 := Heap.lt_size (of_hideAll _ e)
      have h6 := habove p.1 p.2 hp'
      exact absurd (Nat.lt_trans h5 h6) (Nat.lt_irrefl _)
  · exact ⟨_, hcell p.1 p.2 (hmem _ p hp')⟩
  · obtain ⟨m2, F2⟩ := P2.ok.F
    obtain ⟨rfl, hvr⟩ := endD_flow e2 hf
    exact q as2 _ h2 tk2 (post_back hr P2.hr st2.pre (fun b o e n => hideAll_get _ e n) F2 P2.ok.nw) hvr
end
section
variable {g : Gx} {c : Cx} {env : Env} {ns ns' : List Str} {pos : Pos} {as as' as'' : List Addr} {lo : Lo} {H H' : AH} {h h' h'' : Heap}

/-- a def (a, *p), called with two arguments -/
noncomputable def bodyV (k : Nat) (G : Den) (xs : List AV) (H : AH) : Option (AV × AH) := match xs with
  | [x, .d y] => (G (some x :: some (.d (.tuple [y])) :: List.replicate k none) H).bind endD
  | _ => none
theorem CF.of_bodyV {d : DefRec} {x1 x2 : Str} {ns : List Str} {k n : Nat} {hn : Bool} {G : Den} (hd : d ∈ recsOf g.p) (hb : ∀ (v1 v2 : Value) (pm cd doc : Value), bindArgs (docDef d.name d.params d.body d.scope pm cd doc) ⟨[v1, v2], []⟩ = newTuple [v2] >>= fun t => pure [(x1, v1), (x2, t)])
    (hp1 : d.scope.names.lookup x1 = some .local) (hp2 : d.scope.names.lookup x2 = some .local) (hc : ∀ x ∈ d.scope.names, x.2 ≠ .cell) (hns : (x1 :: x2 :: ns).Nodup)
    (hco : d.scope.isCoroutine = false) (hgen : d.scope.isGenerator = false) (hk : d.scope.kind = .function)
    (hG : ∀ (c : Cx) (a L : Addr) (cd : Value), n ≤ c.lv → (hn = true → c.A.handled = none) → FEnv c (envOf d.name d.scope L a cd) (x1 :: x2 :: ns) → SS g c (envOf d.name d.scope L a cd) (x1 :: x2 :: ns) d.body G) : CF g d.name (n + 1) hn (bodyV k G) := by
  intro a c as H s Q E vs xs z H' hx K0 hlv hh hr hv e q
  unfold bodyV at e
  split at e
  case h_2 => cases e
  rename_i xx y
  obtain ⟨⟨fl, lo', H1⟩, e1, e2⟩ := Option.bind_eq_some_iff.mp e
  obtain ⟨v1, v2, rfl, r1, r2⟩ := hv.un2
  obtain ⟨m, F⟩ := K0.F
  obtain ⟨a', o, pm, code, doc, h1, h2, h3, h4⟩ := K0.fn hd
  rw [hx] at h1; cases h1
  refine wpAny_call (codeAny_call_function (fd := docDef d.name d.params d.body d.scope pm code doc) (body := d.body) (by have := K0.room; omega) h2 h3 hco hgen rfl h4 ?_)
  rw [hb v1 v2 pm code doc]
  refine wpAny_bind (wpAny_newTuple ?_ (by rw [sizeLine_eq]; simp))
  have k0 : ∀ b o, s.heap.get? b = some o → (s.heap.push { cls := .type "tuple", data := .seq [v2].toArray }).get? b = some o := fun b o e => Heap.get?_push_of_some _ e
  have P0 : Post as s.heap as H (s.heap.push { cls := .type "tuple", data := .seq [v2].toArray }) := post_keeps hr k0
  have rt : VR (s.heap.push { cls := .type "tuple", data := .seq [v2].toArray }) as (.ref s.heap.objs.size) (.d (.tuple [y])) := by
    obtain ⟨hcy, bs, ry, hny⟩ := r2
    exact VR.newTuple (vs := [v2]) (l := [y]) (by simp [PyData.canLayAll0, hcy]) (by simpa using ReadsAll.cons ry .nil) hny
  have hzn : x1 ≠ x2 := fun z => by simp [z] at hns
  refine wpAny_pure (wpAny_newFunctionEnv hc (fun y hy => ?_) (fun h₁ hNs hsb => ⟨((K0.T.nolimit.keeps F.keep).keeps k0).fresh _ hsb, codeAny_func ?_⟩) hk)
  · rcases List.mem_cons.mp hy with rfl | hy
    · exact hp1
    · rw [List.mem_singleton.mp hy]; exact hp2
  dsimp only at hNs hsb ⊢
  generalize hH1 : s.heap.push { cls := .type "tuple", data := .seq [v2].toArray } = Ht at hNs hsb k0 P0 rt ⊢
  have k1 : ∀ b o, Ht.get? b = some o → h₁.get? b = some o := fun b o e => hsb.extBut b o (Nat.ne_of_lt (Heap.lt_size e)) (Heap.get?_push_of_some _ e)
  have P1 : Post as Ht as H h₁ := post_keeps P0.hr k1
  have P2 := P0.trans P1
  have hlo : LO (envOf d.name d.scope Ht.objs.size a code) (x1 :: x2 :: ns) (some xx :: some (.d (.tuple [y])) :: List.replicate k none) as h₁ := by
    intro i x v e1 e2
    match i, e1, e2 with
    | 0, e1, e2 =>
      cases e1; cases e2
      exact ⟨hk, v1, r1.step hr P2.st, .inl ⟨hp1, _, hNs, lookup_rev (l := [(x1, v1), (x2, _)]) (by simp [hzn]) (by rw [List.lookup_cons]; simp)⟩⟩
    | 1, e1, e2 =>
      cases e1; cases e2
      exact ⟨hk, _, rt.step P0.hr P1.st, .inl ⟨hp2, _, hNs, lookup_rev (l := [(x1, v1), (x2, _)]) (by simp [hzn]) (by rw [List.lookup_cons, show (x2 == x1) = false from beq_eq_false_iff_ne.mpr (Ne.symm hzn), List.lookup_cons]; simp)⟩⟩
    | i + 2, e1, e2 =>
      have : some v ∈ (List.replicate k none : List (Option AV)) := List.mem_of_getElem? (i := i) (by simpa using e2)
      rw [List.mem_replicate] at this
      cases this.2
  have K1 : Ok g (c.into (envOf d.name d.scope Ht.objs.size a code) Ht.objs.size Ht as) as h₁ := by
    have K0' : Ok g c as Ht := ⟨K0.B, K0.T, K0.Tb, K0.fr, K0.ff, K0.fk, K0.room, K0.units, ⟨m, ns_keep F.ns hr P0.st.to0 (fun z => (nomatch z)), fun b o e => k0 b o (F.keep b o e), F.above⟩, K0.nw⟩
    exact Ok.into (s := { s with heap := Ht }) K0' P0.hr (by omega) rfl hk rfl hNs k1
  show wpAny g.M (c.A.deeper (envOf d.name d.scope Ht.objs.size a code)) (execs d.body (envOf d.name d.scope Ht.objs.size a code)) _ _ _
  refine hG (c.into (envOf d.name d.scope Ht.objs.size a code) Ht.objs.size Ht as) a Ht.objs.size code (by show n ≤ c.lv - 1; omega) hh ⟨⟨rfl, rfl, hk⟩, rfl, rfl, hns, .nil⟩ as _ H { s with heap := h₁, toks := s.toks + 2 } _ _ fl lo' H1 ⟨K1, hlo, P2.hr, fun _ h => (nomatch h)⟩ e1 fun as2 f h2 tk2 st2 Q2 hf => ?_
  obtain ⟨m2, F2⟩ := Q2.ok.F
  obtain ⟨rfl, hvr⟩ := endD_flow e2 hf
  exact q as2 _ h2 tk2 (P0.trans (post_back P0.hr Q2.hr st2.pre (fun b o e n => hideAll_get _ e n) F2 Q2.ok.nw)) hvr
end
section
variable {g : Gx} {c : Cx} {env : Env} {ns ns' : List Str} {pos : Pos} {as as' as'' : List Addr} {lo : Lo} {H H' : AH} {h h' h'' : Heap}

/-! types as values -/
noncomputable def tyD (T : String) (_ : Lo) (H : AH) : Option (AV × AH) := some (.t T, H)
theorem SE.type {x : Str} {T : String} (hx : GB g x (.type T)) (he : EnvOk env) (hk : env.kindOf x = some .globalImplicit := by rfl) (hd : (x == ("__debug__" : Str)) = false := by decide) : SE g c env ns (.Name x pos) (tyD T) := by
  intro as lo H s Q E v H' P e k
  cases e
  exact eval_GB P.ok he hx (k as _ s.heap s.toks (.refl P.hr) rfl) hk hd
/-- type(x) of a str -/
noncomputable def typeO : List AV → AH → Option (AV × AH)
  | [.d (.str _)], H => some (.t "str", H)
  | _, _ => none
theorem SE.typeOf {e : Expr} {p2 : Pos} {fs : Lo → AH → Option (List AV × AH)} (hx : GB g "type" (.type "type")) (he : EnvOk env) (hs : SEs g c env ns [e] fs) (hk : env.kindOf "type" = some .globalImplicit := by rfl)
    (h1 : starEach [e] env = (false, eval e env) :: starEach [] env := by rfl)
    (h3 : eval (.Call (.Name "type" p2) [e] [] pos) env = (do callWith pos (← eval (.Name "type" p2) env) [] (backTo pos (starEach [e] env)) (backToKw pos (keywordEach [] env))) := by rfl) : SE g c env ns (.Call (.Name "type" p2) [e] [] pos) (callD typeO fs) := by
  intro as lo H s Q E v H' P q k
  unfold callD at q
  obtain ⟨⟨xs, H1⟩, e1, q⟩ := Option.bind_eq_some_iff.mp q
  refine Call_ (eval_GB P.ok he hx (Pv.callWith_type1 (hs pos as lo H s _ _ xs H1 P e1 fun as1 vs ha tk1 P1 v1 => ?_) h1 rfl) hk (by decide)) h3
  dsimp only at q
  unfold typeO at q
  split at q
  · cases q
    obtain ⟨v, rfl, r⟩ := v1.un1
    obtain ⟨_, t, rfl⟩ := r.unstr
    exact call_type_of (Tx := "str") (typeIs_str _ _ _) (by decide) (k as1 _ ha tk1 P1 rfl)
  · cases q
/-- isinstance(x, bytes) of a str -/
noncomputable def isiO : List AV → AH → Option (AV × AH)
  | [.d (.str _), .t T], H => if T = "bytes" then some (.d (.bool false), H) else none
  | _, _ => none
theorem b_isi : BOk g "isinstance" isiO := by
  intro A as H s Q E vs xs z H' hu hr hv e k
  unfold isiO at e
  split at e
  · split at e
    · rename_i hT
      cases e; subst hT
      obtain ⟨v, u, rfl, r1, r2⟩ := hv.un2
      obtain ⟨_, t, rfl⟩ := r1.unstr
      cases r2
      exact call_isinstance (isinstance_false_str (by decide) (by kernel_rfl) (by rw [isSubtype_type]; kernel_rfl)) (k as _ s.heap _ (.refl hr) (.bool _))
    · cases e
  · cases e
theorem issub_one {prog : Program} {w : World} {A : Around} {s : Shared} {dep : Int} {tk : Tok} {Q : Fin → Shared → Prop} {E : Value → Shared → Prop} (hq : Q (.done (.ret (.bool true))) s) : wpAny (model prog w) A (Builtin.«issubclass.nested» ⟨[.type "str", .type "str", .int dep tk], []⟩) Q E s := by
  have hm : typeOf (.type "str") = pure (.type "type") := by kernel_rfl
  have hself : isSubtype (.type "str") (.type "str") = pure true := by rw [isSubtype_type]; kernel_rfl
  repeat (any_goals (first | assumption | (rw [if_pos hm]) | (rw [hself]) | wp_step))

theorem F_args_issub3 (a b cc : Value) : argsOk "issubclass.nested" ⟨[a, b, cc], []⟩ := by unfold argsOk; kernel_rfl
theorem issub_tup {A : Around} {s : Shared} {tp : Addr} {v2 : Value} {Q E : Value → Shared → Prop} (htp : s.heap.get? tp = some { cls := .type "tuple", data := .seq #[.type "str", v2] }) (hq : ∀ tk, Q (.bool true) { s with toks := tk }) :
    wpAny g.M A (call (.builtin "issubclass") [.type "str", .ref tp]) Q E s := by
  refine call_issubclass (S := fun A R s => s.heap.get? tp = some { cls := .type "tuple", data := .seq #[.type "str", v2] } ∧ ∀ tk, R (.ok (.ret (.bool true))) { s with toks := tk }) ?_ ⟨htp, hq⟩
  intro prog w A R s hs
  obtain ⟨htp, hs⟩ := hs
  refine issubclass_outer ?_
  obtain ⟨h, g', d, t, os⟩ := s
  have hT2 : (⟨h, g', d, t, os⟩ : Shared).TypeIs (.ref tp) "tuple" := ⟨_, htp, rfl⟩
  have f1 := F.isi_sub_tuple
  unfold rawInt
  repeat (any_goals (first | assumption | wp_step))
  refine codeAny_call_builtin (show plainId "issubclass.nested" = true by decide +kernel) F.entry_issubclass_nested ?_
  show wpAny _ _ (checkBuiltinCall "issubclass.nested" ⟨[.type "str", .type "str", rawInt 1], []⟩) _ _ _
  refine (wpAny_of_eq (show checkBuiltinCall "issubclass.nested" ⟨[.type "str", .type "str", rawInt 1], []⟩ = pure () by kernel_rfl) ?_)
  refine issub_one (dep := 1) ?_
  repeat (any_goals (first | assumption | wp_step))
  exact hs _

/-- issubclass(k, (str, ..)) of the type str -/
noncomputable def issubD (f : Lo → AH → Option (AV × AH)) (lo : Lo) (H : AH) : Option (AV × AH) := (f lo H).bind fun p => match p.1 with
  | .t T => if T = "str" then some (.d (.bool true), p.2) else none
  | _ => none
theorem SE.issub {e : Expr} {n : Nat} {p2 p3 p4 p5 : Pos} {f : Lo → AH → Option (AV × AH)} (hx : GB g "issubclass" (.builtin "issubclass")) (hs : GB g "str" (.type "str")) (hb : GB g "bytes" (.type "bytes")) (he : EnvOk env) (h1 : SE g c env ns e f)
    (hk1 : env.kindOf "issubclass" = some .globalImplicit := by rfl) (hk2 : env.kindOf "str" = some .globalImplicit := by rfl) (hk3 : env.kindOf "bytes" = some .globalImplicit := by rfl)
    (h3 : eval (.Call (.Name "issubclass" p2) [e, .Tuple [.Name "str" p3, .Name "bytes" p4] n p5] [] pos) env = (do callWith pos (← eval (.Name "issubclass" p2) env) [] (backTo pos (starEach [e, .Tuple [.Name "str" p3, .Name "bytes" p4] n p5] env)) (backToKw pos (keywordEach [] env))) := by rfl)
    (hs1 : starEach [e, .Tuple [.Name "str" p3, .Name "bytes" p4] n p5] env = (false, eval e env) :: starEach [.Tuple [.Name "str" p3, .Name "bytes" p4] n p5] env := by rfl) :
    SE g c env ns (.Call (.Name "issubclass" p2) [e, .Tuple [.Name "str" p3, .Name "bytes" p4] n p5] [] pos) (issubD f) := by
  intro as lo H s Q E v H' P q k
  unfold issubD at q
  obtain ⟨⟨x, H1⟩, e1, q⟩ := Option.bind_eq_some_iff.mp q
  dsimp only at q
  split at q
  · split at q
    · rename_i hT
      subst hT
      cases q
      refine Call_ (eval_GB P.ok he hx (PyProof.Rows.callWith_builtin1 (spliced_more ?_ hs1) hs1 rfl) hk1 (by decide)) h3
      refine h1 as lo H s _ _ _ _ P e1 fun as1 a ha tk1 P1 v1 => ?_
      cases v1
      have Q1 := P.step P1
      refine spliced_more (Tuple_ (spliced_more (eval_GB (s := { s with heap := ha, toks := tk1 }) Q1.ok he hs ?_ hk2 (by decide)) rfl)) rfl
      refine spliced_more (eval_GB (s := { s with heap := ha, toks := tk1 }) Q1.ok he hb (spliced_none ?_) hk3 (by decide)) rfl
      refine wpAny_newTuple (spliced_none ?_) (by rw [sizeLine_eq]; simp)
      refine issub_tup (Heap.get?_push_size _ rfl) fun tk => ?_
      exact k as1 _ _ tk ⟨P1.st.trans (stp_push _), P1.hr.push _⟩ (.bool true)
    · cases q
  · cases q

/-! more tests and values -/
noncomputable def orV (o : AV → AH → Option Bool) (f1 f2 : Lo → AH → Option (AV × AH)) (lo : Lo) (H : AH) : Option (AV × AH) := (f1 lo H).bind fun p => (o p.1 p.2).bind fun b => if b then some p else f2 lo p.2
theorem SE.orV {e1 e2 : Expr} {o : AV → AH → Option Bool} {f1 f2 : Lo → AH → Option (AV × AH)} (ho : TrOk g o) (h1 : SE g c env ns e1 f1) (h2 : SE g c env ns e2 f2) : SE g c env ns (.BoolOp .Or [e1, e2] pos) (orV o f1 f2) := by
  intro as lo H s Q E v H' P q k
  unfold Mine.orV at q
  obtain ⟨⟨x, H1⟩, q1, q⟩ := Option.bind_eq_some_iff.mp q
  obtain ⟨b, q2, q⟩ := Option.bind_eq_some_iff.mp q
  refine BoolOp_or (h1 as lo H s _ _ x H1 P q1 fun as1 a ha tk1 P1 v1 => ?_)
  refine ho c.A as1 H1 _ _ _ a x b (P.step P1).ok.un P1.hr v1 q2 fun tk => ?_
  cases b with
  | true => simp only [if_true] at q ⊢; cases q; exact k as1 a ha tk P1 v1
  | false => simp only [Bool.false_eq_true, if_false] at q ⊢; exact BoolOp_one (h2 as1 lo H1 _ _ _ v H' (P.step P1) q fun as2 u hb tk2 P2 hv => k as2 u hb tk2 (P1.trans P2) hv)
noncomputable def orN : List (Lo → AH → Option (Bool × AH)) → Lo → AH → Option (Bool × AH)
  | [], _, H => some (false, H)
  | f :: r, lo, H => (f lo H).bind fun p => if p.1 then some (true, p.2) else orN r lo p.2
noncomputable def STs (g : Gx) (c : Cx) (env : Env) (ns : List Str) : List Expr → List (Lo → AH → Option (Bool × AH)) → Prop
  | [], [] => True
  | e :: es, f :: fs => ST g c env ns e f ∧ STs g c env ns es fs
  | _, _ => False
theorem ST.orN {es : List Expr} {fs : List (Lo → AH → Option (Bool × AH))} (h : STs g c env ns es fs) : ST g c env ns (.BoolOp .Or es pos) (orN fs) := by
  induction es generalizing fs with
  | nil =>
    cases fs with
    | cons _ _ => exact h.elim
    | nil => intro as lo H s Q E v H' P q k; cases q; exact isTrue_or_nil (k as s.heap s.toks (.refl P.hr))
  | cons e es ih =>
    cases fs with
    | nil => exact h.elim
    | cons f fs =>
      intro as lo H s Q E v H' P q k
      unfold Mine.orN at q
      obtain ⟨⟨x, H1⟩, q1, q⟩ := Option.bind_eq_some_iff.mp q
      refine isTrue_or (h.1 as lo H s _ _ x H1 P q1 fun as1 ha tk1 P1 => ?_)
      cases x with
      | true => cases q; simp only [if_true]; exact k as1 ha tk1 P1
      | false =>
        simp only [Bool.false_eq_true, if_false] at q ⊢
        have := ih h.2 as1 lo H1 { s with heap := ha, toks := tk1 } Q E v H' (P.step P1) q fun as2 hb tk2 P2 => k as2 hb tk2 (P1.trans P2)
        exact this

/-- str * int -/
noncomputable def smulS (x : Str) (n : Int) : Str := if n < 1 then Str.empty else if (n == 1 || x.length == 0) = true then x else ⟨(List.replicate n.toNat x.cps).foldl (· ++ ·) #[]⟩
noncomputable def smulO (a b : AV) (_ : AH) : Option AV := match a, b with
  | .d (.str x), .d (.int n) => if n.natAbs ≤ 1000 ∧ x.length ≤ 1000 ∧ PyData.strOk (smulS x n) = true ∧ (smulS x n).length ≤ 1000000 then some (.d (.str (smulS x n))) else none
  | _, _ => none
theorem op_smul : OpOk g (binaryOp .Mult) smulO := by
  intro A as H s Q E a b x y z hu hr ha hb e k
  unfold smulO at e
  split at e
  · rename_i x n
    split at e
    · rename_i hz
      cases e
      obtain ⟨o1, t, rfl⟩ := ha.unstr
      obtain ⟨u, rfl⟩ := hb.unint
      obtain ⟨z1, z2, z3, z4⟩ := hz
      have hk : ∀ t' k', Q (.str (smulS x n) t') { s with toks := k' } := fun t' k' => k _ s.heap k' (.refl hr) (.str _ _ z3)
      have hm : x.length * n.toNat ≤ 1000 * 1000 := Nat.mul_le_mul z2 (by omega)
      refine PySem.P.mul_str (by simp; omega) (fun h1 h2 => ?_) (fun h1 h2 => ?_) ?_
      · have h3 : (1000 : Int) ≤ (2 ^ 63 - 1) / n := by
          rw [Int.le_ediv_iff_mul_le (by omega)]
          omega
        omega
      · unfold Builtin.Str.tooLong; rw [sizeLine_eq]; exact decide_eq_false (by omega)
      · unfold smulS at hk z4
        split
        · rename_i h; rw [if_pos h] at hk; exact ⟨by decide, hk _ _⟩
        · rename_i h; rw [if_neg h] at hk z4
          split
          · rename_i h2; rw [if_pos h2] at hk; exact hk t s.toks
          · rename_i h2; rw [if_neg h2] at hk z4; exact ⟨by show _ ≤ _; rw [sizeLine_eq]; omega, hk _ _⟩
    · cases e
  · cases e

/-! statements -/
noncomputable def badD : Den := fun _ _ => none
theorem SS.bad {st : List Stmt} : SS g c env ns st badD := fun as lo H s Q E fl lo' H' P q k => by cases q
theorem SX.bad {st : Stmt} : SX g c env ns st badD := fun as lo H s Q E fl lo' H' P q k => by cases q
noncomputable def unpD (D : Lo → AV → Option Lo) (f : Lo → AH → Option (AV × AH)) : Den := fun lo H => (f lo H).bind fun p => (D lo p.1).map fun lo' => (.next, lo', p.2)
theorem SX.unpack {es : List Expr} {n : Nat} {p2 : Pos} {e : Expr} {D : Lo → AV → Option Lo} {f : Lo → AH → Option (AV × AH)} (hh : c.A.handled = none) (ht : TG g c env ns (Us c env) (fun _ => True) (.Tuple es n p2) D) (h1 : SE g c env ns e f)
    (hs : swapsWithSole [.Tuple es n p2] e pos.line env = pure false := by rfl) (hw : swappedStores [.Tuple es n p2] e env = pure none := by rfl) : SX g c env ns (.Assign [.Tuple es n p2] e pos) (unpD D f) := by
  intro as lo H s Q E fl lo' H' P q k
  obtain ⟨⟨v, H1⟩, e1, q⟩ := Option.bind_eq_some_iff.mp q
  obtain ⟨lo1, e2, q⟩ := Option.map_eq_some_iff.mp q
  cases q
  refine Assign_Tuple (h1 as lo H s _ _ v H1 P e1 fun as1 u ha tk1 P1 v1 => ?_) hs hw
  exact ht as1 lo H1 _ _ _ u v _ hh (P.step P1) trivial v1 e2 fun h' tk st P2 _ => k as1 .next h' tk (P1.up.trans st) P2 trivial
end
section
variable {g : Gx} {c : Cx} {env : Env} {ns ns' : List Str} {pos : Pos} {as as' as'' : List Addr} {lo : Lo} {H H' : AH} {h h' h'' : Heap}

/-! x.replace(a, b), a and b written, as a def's first act -/
noncomputable def replD (j : Nat) (a b : Str) (lo : Lo) (H : AH) : Option (AV × AH) := (ldD j lo H).bind fun p => match p.1 with
  | .d (.str z) => if z.length + (z.length + 1) * b.length ≤ 16777216 ∧ PyData.strOk (Txt.replace z a b) = true then some (.d (.str (Txt.replace z a b)), p.2) else none
  | _ => none
theorem SSt.replace {x y a b : Str} {i j k1 k2 : Nat} {p2 p3 p4 p5 p6 p7 : Pos} {sts : List Stmt} {G : Den} (fe : FEnv c env ns) (hi : ns[i]? = some x) (hj : ns[j]? = some y) (hky : env.kindOf y = some .local) (hr : SS g c env ns sts G) (hab : (a == b) = false)
    (hd : (y == ("__debug__" : Str)) = false := by decide) (hk : env.kindOf x = some .local := by rfl)
    (hw : swapsWith (.Call (.Attribute (.Name y p3) "replace" p4) [.Constant (.str a) k1 p6, .Constant (.str b) k2 p7] [] p5) (some (.Name x p2)) pos.line env = pure false := by rfl)
    (pl : Sem Bool) (h3 : eval (.Call (.Attribute (.Name y p3) "replace" p4) [.Constant (.str a) k1 p6, .Constant (.str b) k2 p7] [] p5) env = (do
      let ov ← eval (.Name y p3) env
      standAt p4.atName
      let (f, first) ← holding [ov] (getMethod ov "replace" pl)
      callWith p5 f first (backTo p5 (starEach [.Constant (.str a) k1 p6, .Constant (.str b) k2 p7] env)) (backToKw p5 (keywordEach [] env))) := by rfl) :
    SSt g c env ns (.Assign [.Name x p2] (.Call (.Attribute (.Name y p3) "replace" p4) [.Constant (.str a) k1 p6, .Constant (.str b) k2 p7] [] p5) pos :: sts) (seqD (setD i (replD j a b)) G) := by
  intro as lo H s Q E fl lo' H' ht P q k
  obtain ⟨⟨f1, lo1, H1⟩, e1, q⟩ := Option.bind_eq_some_iff.mp q
  obtain ⟨⟨v, H0⟩, e0, e1⟩ := Option.map_eq_some_iff.mp e1
  cases e1
  dsimp only at q
  unfold replD at e0
  obtain ⟨⟨u, H2⟩, e2, e0⟩ := Option.bind_eq_some_iff.mp e0
  dsimp only at e0
  split at e0
  case h_2 => cases e0
  rename_i z
  split at e0
  case isFalse => cases e0
  rename_i hz
  cases e0
  unfold ldD at e2
  split at e2
  case h_2 => cases e2
  rename_i u' hu
  cases e2
  obtain ⟨hkk, w, hw', qq⟩ := P.lo j y _ hj hu
  obtain ⟨o1, t, rfl⟩ := hw'.unstr
  refine wpAny_execs_cons ?_
  refine wpAny_Assign_Name (methodCall_KW (wpAny_Name ?_ hd) h3) hw
  rcases qq with ⟨_, m, n, hm⟩ | ⟨e, _⟩
  case inr => rw [hky] at e; cases e
  refine wpAny_loadName_local hkk hky n hm ?_
  refine GM.replace ?_
  refine callWith_method1 (spliced_more (Calls.Constant_str (spliced_more (Calls.Constant_str (spliced_none ?_)) rfl)) rfl) rfl rfl
  refine SC.replace (show (s.toks : Nat) ≠ 0 by omega) (show (s.toks + 1 : Nat) ≠ 0 by omega) (show (s.toks : Nat) ≠ s.toks + 1 by omega) hab hz.1 fun t' tk => ?_
  refine store_local fe hi hk P (show VR s.heap as (.str (Txt.replace z a b) t') (.d (.str (Txt.replace z a b))) from .str _ _ hz.2) fun h' tk st P2 => ?_
  exact hr as _ _ { s with heap := h', toks := tk } Q E fl lo' H' P2 q fun as2 f h2 tk2 st2 P3 hf => k as2 f h2 tk2 (st.trans st2) P3 hf

/-! max of two ints -/
noncomputable def maxO : List AV → AH → Option (AV × AH)
  | [.d (.int a), .d (.int b)], H => some (.d (.int (max a b)), H)
  | _, _ => none
/-- a built-in that wants that nothing is handled -/
noncomputable def BOkH (g : Gx) (id : String) (o : List AV → AH → Option (AV × AH)) : Prop :=
  ∀ (A : Around) (as : List Addr) (H : AH) (s : Shared) (Q E : Value → Shared → Prop) (vs : List Value) (xs : List AV) (z : AV) (H' : AH), A.handled = none → A.units + 150 < cLine → HR as H s.heap → VRs s.heap as vs xs → o xs H = some (z, H') →
    (∀ as' v h' tk, Post as s.heap as' H' h' → VR h' as' v z → Q v { s with heap := h', toks := tk }) → wpAny g.M A (call (.builtin id) vs) Q E s
theorem SE.builtinH {x : Str} {id : String} {e : Expr} {es : List Expr} {p2 : Pos} {o : List AV → AH → Option (AV × AH)} {fs : Lo → AH → Option (List AV × AH)} (hh : c.A.handled = none) (hb : BOkH g id o) (hx : GB g x (.builtin id)) (he : EnvOk env) (hs : SEs g c env ns (e :: es) fs)
    (hk : env.kindOf x = some .globalImplicit := by rfl) (hd : (x == ("__debug__" : Str)) = false := by decide) (h1 : starEach (e :: es) env = (false, eval e env) :: starEach es env := by rfl)
    (h2 : ((backTo pos (starEach es env)).any fun x => x.1) = false := by rfl)
    (h3 : eval (.Call (.Name x p2) (e :: es) [] pos) env = (do callWith pos (← eval (.Name x p2) env) [] (backTo pos (starEach (e :: es) env)) (backToKw pos (keywordEach [] env))) := by rfl) :
    SE g c env ns (.Call (.Name x p2) (e :: es) [] pos) (callD o fs) := by
  intro as lo H s Q E v H' P q k
  unfold callD at q
  obtain ⟨⟨xs, H1⟩, e1, q⟩ := Option.bind_eq_some_iff.mp q
  refine Call_ (eval_GB P.ok he hx (PyProof.Rows.callWith_builtin1 (hs pos as lo H s _ _ xs H1 P e1 fun as1 vs ha tk1 P1 v1 => ?_) h1 h2) hk hd) h3
  exact hb c.A as1 H1 _ _ _ vs xs v H' hh (by have := (P.step P1).ok.units; omega) P1.hr v1 q fun as2 u hb tk2 P2 v2 => k as2 u hb tk2 (P1.trans P2) v2
theorem b_max : BOkH g "max" maxO := by
  intro A as H s Q E vs xs z H' hh hu hr hv e k
  unfold maxO at e
  split at e
  · cases e
    rename_i a b
    obtain ⟨v, u, rfl, r1, r2⟩ := hv.un2
    obtain ⟨t, rfl⟩ := r1.unint
    obtain ⟨t', rfl⟩ := r2.unint
    refine max_two_ints hh fun h' tk hk => ?_
    have P1 := post_keeps hr hk
    have e : (if b > a then Value.int b t' else Value.int a t) = .int (max a b) (if b > a then t' else t) := by
      split
      · rw [Int.max_eq_right (by omega)]
      · rw [Int.max_eq_left (by omega)]
    rw [e]
    exact k as _ h' tk P1 (.int _ _)
  · cases e

/-! the least of a list of pairs -/
noncomputable def ltP (x y : PyData) : Option Bool := match x, y with
  | .tuple [.int a, .int b], .tuple [.int c, .int e] => some (decide (a < c ∨ (a = c ∧ b < e)))
  | _, _ => none
noncomputable def pairs : List PyData → Option (List (Int × Int))
  | [] => some []
  | .tuple [.int a, .int b] :: r => (pairs r).map ((a, b) :: ·)
  | _ :: _ => none
noncomputable def minP (b : Int × Int) : List (Int × Int) → Int × Int
  | [] => b
  | x :: r => minP (if x.1 < b.1 ∨ (x.1 = b.1 ∧ x.2 < b.2) then x else b) r
noncomputable def prD (p : Int × Int) : PyData := .tuple [.int p.1, .int p.2]
noncomputable def minO : List AV → AH → Option (AV × AH)
  | [x], H => (asD x H).bind fun d => match d with
    | .list l => (pairs l).bind fun ps => match ps with
      | [] => none
      | p :: r => if l.length ≤ 1000 then some (.d (prD (minP p r)), H) else none
    | _ => none
  | _, _ => none
theorem pairs_eq : ∀ {l : List PyData} {ps : List (Int × Int)}, pairs l = some ps → l = ps.map prD
  | [], _, e => by cases e; rfl
  | d :: l, ps, e => by
    unfold pairs at e
    split at e
    · cases ‹d :: l = []›
    · rename_i a b r heq
      cases heq
      obtain ⟨ps', e', rfl⟩ := Option.map_eq_some_iff.mp e
      rw [pairs_eq e']; rfl
    · cases e

theorem min_loop {A : Around} {s₀ : Heap} {as : List Addr} {H : AH} (hr : HR as H s₀) {I S : Addr} {n : Nat} {fp : List Addr} {P : Nat → Value → Prop} {St : Nat → Heap → Prop} {R : Result → Shared → Prop} (hu : A.units + 150 < cLine) (W : Walks g.prog g.w A.in1 I fp [I] n P St) (hSf : S ∉ fp) (hI0 : s₀.get? I = none) (hS0 : s₀.get? S = none)
    (ps : List (Int × Int)) (hn : ps.length = n) (hP : ∀ i v, P i v → ∃ p, ps[i]? = some p ∧ VR s₀ as v (.d (prD p))) :
    ∀ (k j : Nat) (s : Shared) (vb : Value) (cc : Nat) (b : Int × Int), n - j = k → j ≤ n → St j s.heap → (∀ a o, s₀.get? a = some o → s.heap.get? a = some o) → VR s₀ as vb (.d (prD b)) →
    s.heap.get? S = some { cls := .type "list", dict := none, data := .seq #[vb, vb] cc, slots := #[] } →
    (∀ v h' tk, VR s₀ as v (.d (prD (minP b (ps.drop j)))) → (∀ a o, s₀.get? a = some o → h'.get? a = some o) → R (.ok (.ret v)) { s with heap := h', toks := tk }) →
    codeAny g.M A (.builtin "min.loop" ⟨[.ref I, .none, .ref S], []⟩) R s := by
  have hSw : S ∉ ([I] : List Addr) := fun h => hSf (W.sub _ h)
  have hname : (toString "min" ++ toString ".loop" : String) = "min.loop" := by decide
  have nS : ∀ a o, s₀.get? a = some o → a ≠ S := fun a o e z => by rw [z, hS0] at e; cases e
  have nI : ∀ a o, s₀.get? a = some o → a ∉ ([I] : List Addr) := fun a o e z => by rw [List.mem_singleton.mp z, hI0] at e; cases e
  intro k
  induction k with
  | zero =>
    intro j s vb cc b hk hj hst hkeep hvb hS hR
    have hin : j = n := by omega
    refine codeAny_builtin F.entry_min_loop ?_
    rw [Around.under_plainId F.plain_min_loop _]
    show wpAny _ A.in1 (seqItems? (.ref S) >>= _) _ _ s
    refine wpAny_bind (wpAny_seqItems hS rfl ?_)
    show wpAny _ A.in1 (tryCatch (pyNext (.ref I)) _ >>= _) _ _ s
    refine wpAny_bind (wpAny_tryCatch (W.done s _ _ (hin ▸ hst) fun h' tk hk' => ?_))
    have hS' := hk' S _ hSw hS
    show wpAny _ A.in1 (updateSeq S (fun _ => #[]) >>= _) _ _ _
    refine wpAny_bind ?_
    refine wpAny_updateSeq hS' rfl (wpAny_bind (wpAny_letGo (wpAny_pure ?_)))
    refine hR vb _ tk (by rw [List.drop_of_length_le (by omega)]; exact hvb) fun a o e => (Heap.get?_update_other _ _ (Ne.symm (nS a o e))).trans (hk' a o (nI a o e) (hkeep a o e))
  | succ k ih =>
    intro j s vb cc b hk hj hst hkeep hvb hS hR
    have hlt : j < n := by omega
    refine codeAny_builtin F.entry_min_loop ?_
    rw [Around.under_plainId F.plain_min_loop _]
    show wpAny _ A.in1 (seqItems? (.ref S) >>= _) _ _ s
    refine wpAny_bind (wpAny_seqItems hS rfl ?_)
    show wpAny _ A.in1 (tryCatch (pyNext (.ref I)) _ >>= _) _ _ s
    refine wpAny_bind (wpAny_tryCatch (W.item j s _ _ hlt hst fun v h' tk hPv hst' hk' => ?_))
    have hS' := hk' S _ hSw hS
    have hkeep' : ∀ a o, s₀.get? a = some o → h'.get? a = some o := fun a o e => hk' a o (nI a o e) (hkeep a o e)
    have P0 := post_keeps hr hkeep'
    obtain ⟨p, hp, rv⟩ := hP j v hPv
    have ed : ps.drop j = p :: ps.drop (j + 1) := by
      obtain ⟨_, e⟩ := List.getElem?_eq_some_iff.mp hp
      rw [← e]; exact List.drop_eq_getElem_cons (by omega)
    rw [ed] at hR
    show wpAny _ A.in1 (tryCatch (holding [v, v] (richCompare .Lt v vb >>= _)) _ >>= _) _ _ _
    refine wpAny_bind (wpAny_tryCatch (wpAny_holding (wpAny_bind ?_)))
    show wpAny g.M A.in1 (compareOp .Lt v vb) _ _ _
    refine lt_exact (s := { s with heap := h', toks := tk }) (by show A.units + 1 + 100 < _; omega) (rv.step hr P0.st) (hvb.step hr P0.st) ?_
    refine wpAny_bind (wpAny_holding (wpAny_truthy_bool ?_))
    refine wpAny_bind (wpAny_letGo (wpAny_pure ?_))
    by_cases hlt' : p.1 < b.1 ∨ (p.1 = b.1 ∧ p.2 < b.2)
    · rw [decide_eq_true hlt', if_pos rfl]
      refine wpAny_bind ?_
      refine wpAny_updateSeq hS' rfl (wpAny_bind (wpAny_letGo ?_))
      rw [hname]
      have kp : ∀ a o, a ≠ S → h'.get? a = some o → (h'.update S (Obj.mapSeq fun _ => #[v, v])).get? a = some o := fun a o n e => (Heap.get?_update_other _ _ (Ne.symm n)).trans e
      refine wpAny_pure ⟨plainId_quiet F.plain_min_loop _, ih (j + 1) _ v _ p (by omega) (by omega) (W.frame _ _ _ hst' fun a ha o e => kp a o (fun z => hSf (z ▸ ha)) e) (fun a o e => kp a o (nS a o e) (hkeep' a o e)) rv (Heap.get?_update_self _ hS' rfl) fun v' h'' tk'' r' hk'' => ?_⟩
      refine hR v' h'' tk'' ?_ hk''
      rw [show minP b (p :: ps.drop (j + 1)) = minP p (ps.drop (j + 1)) by show minP (if _ then p else b) _ = _; rw [if_pos hlt']]
      exact r'
    · rw [decide_eq_false hlt', if_neg (by decide)]
      refine wpAny_bind (wpAny_letGo ?_)
      rw [hname]
      refine wpAny_pure ⟨plainId_quiet F.plain_min_loop _, ih (j + 1) _ vb cc b (by omega) (by omega) hst' hkeep' hvb hS' fun v' h'' tk'' r' hk'' => ?_⟩
      refine hR v' h'' tk'' ?_ hk''
      rw [show minP b (p :: ps.drop (j + 1)) = minP b (ps.drop (j + 1)) by show minP (if _ then p else b) _ = _; rw [if_neg hlt']]
      exact r'

theorem b_min : BOkH g "min" minO := by
  intro A as H s Q E vs xs z H' hh hu hr hv e k
  unfold minO at e
  split at e
  case h_2 => cases e
  rename_i x
  obtain ⟨d, e1, e⟩ := Option.bind_eq_some_iff.mp e
  split at e
  case h_2 => cases e
  rename_i l
  obtain ⟨ps, e2, e⟩ := Option.bind_eq_some_iff.mp e
  cases ps with
  | nil => cases e
  | cons p ps =>
    dsimp only at e
    split at e
    case isFalse => cases e
    rename_i hz
    cases e
    obtain ⟨v, rfl, r⟩ := hv.un1
    obtain ⟨a, us, rfl, hL, hc, bs, rl, hn⟩ := r.list hr e1
    have hlen := readsAll_len rl
    have hl := pairs_eq e2
    have hname : (toString "min" ++ toString ".loop" : String) = "min.loop" := by decide
    refine call_function_tree F.kind_min F.plain_min F.entry_min (F.args_min1 _) ?_
    show wpAny g.M A.in1 (Builtin.Builtins.bindParams "min" ["key", "default"] 0 ⟨[], []⟩ >>= _) _ _ s
    refine wpAny_bind (wpAny_of_eq (show Builtin.Builtins.bindParams "min" ["key", "default"] 0 ⟨[], []⟩ = pure [none, none] from rfl) ?_)
    refine wpAny_bind (wpAny_pure ?_)
    refine wpAny_bind (wpAny_pyIter_list hL ?_)
    refine wpAny_bind (wpAny_newObj_type ?_)
    rw [hname]
    obtain ⟨o, ho, hoc, m, hod⟩ := id hL
    have hIn : s.heap.get? s.heap.objs.size = none := size_none
    generalize hI : s.heap.push { cls := .type "list_iterator", data := .fields #[.ref a, .int 0 0] } = h1
    have hsz : h1.objs.size = s.heap.objs.size + 1 := by rw [← hI, Heap.size_push]
    have hSn : s.heap.get? h1.objs.size = none := by
      cases e : s.heap.get? h1.objs.size with
      | none => rfl
      | some o => have := Heap.lt_size e; rw [hsz] at this; exact absurd (Nat.lt_of_succ_lt this) (Nat.lt_irrefl _)
    have ha : a ≠ s.heap.objs.size := Nat.ne_of_lt (Heap.lt_size ho)
    have haS : a ≠ h1.objs.size := fun z => by rw [z, hSn] at ho; cases ho
    have neS : h1.objs.size ≠ s.heap.objs.size := by rw [hsz]; exact Nat.succ_ne_self _
    have W := Walks.list (prog := g.prog) (w := g.w) (A := A.in1) hh s.heap.objs.size a ha us.toArray
    rw [show us.toArray.size = l.length by rw [List.size_toArray, hlen]] at W
    have lst : l.length = (p :: ps).length := by rw [hl]; simp
    have k1 : ∀ b o, s.heap.get? b = some o → (h1.push { cls := .type "list", dict := none, data := .seq #[] }).get? b = some o := fun b o e => Heap.get?_push_of_some _ (by rw [← hI]; exact Heap.get?_push_of_some _ e)
    have hP : ∀ i v, us.toArray[i]? = some v → ∃ q, (p :: ps)[i]? = some q ∧ VR s.heap as v (.d (prD q)) := fun i v hv => by
      obtain ⟨d, hd, q⟩ := vals_of rl hc hn hv
      rw [hl, List.getElem?_map] at hd
      obtain ⟨q', e, rfl⟩ := Option.map_eq_some_iff.mp hd
      exact ⟨q', e, q⟩
    have hSf : h1.objs.size ∉ [s.heap.objs.size, a] := fun z => by
      rcases List.mem_cons.mp z with z | z
      · exact neS z
      · exact haS (List.mem_singleton.mp z).symm
    have hS : (h1.push { cls := .type "list", dict := none, data := .seq #[] }).get? h1.objs.size = some { cls := .type "list", dict := none, data := .seq #[] 0, slots := #[] } := Heap.get?_push_size _ rfl
    have hst : (h1.push { cls := .type "list", dict := none, data := .seq #[] }).IsListIter s.heap.objs.size a 0 ∧ (h1.push { cls := .type "list", dict := none, data := .seq #[] }).IsList a us.toArray :=
      ⟨⟨_, Heap.get?_push_of_some _ (by rw [← hI]; exact Heap.get?_push_size _ rfl), rfl, rfl⟩, ⟨o, k1 a o ho, hoc, m, hod⟩⟩
    refine wpAny_pure ⟨plainId_quiet F.plain_min_loop _, ?_⟩
    generalize hh2 : h1.push { cls := .type "list", dict := none, data := .seq #[] } = h2 at k1 hS hst ⊢
    refine codeAny_builtin F.entry_min_loop ?_
    rw [Around.under_plainId F.plain_min_loop _]
    show wpAny _ A.in1 (seqItems? (.ref h1.objs.size) >>= _) _ _ _
    refine wpAny_bind (wpAny_seqItems hS rfl ?_)
    show wpAny _ A.in1 (tryCatch (pyNext (.ref s.heap.objs.size)) _ >>= _) _ _ _
    refine wpAny_bind (wpAny_tryCatch (W.item 0 _ _ _ (by rw [lst]; simp) hst fun v h' tk hPv hst' hk' => ?_))
    have hS' := hk' _ _ (fun z => neS (List.mem_singleton.mp z)) hS
    show wpAny _ A.in1 (updateSeq h1.objs.size (fun _ => #[v, v]) >>= _) _ _ _
    refine wpAny_bind ?_
    refine wpAny_updateSeq hS' rfl ?_
    rw [hname]
    obtain ⟨q, hq, rv⟩ := hP 0 v hPv
    cases hq
    have kp : ∀ b o, b ≠ h1.objs.size → h'.get? b = some o → (h'.update h1.objs.size (Obj.mapSeq fun _ => #[v, v])).get? b = some o := fun b o n e => (Heap.get?_update_other _ _ (Ne.symm n)).trans e
    have nS : ∀ b o, s.heap.get? b = some o → b ≠ h1.objs.size := fun b o e z => by rw [z, hSn] at e; cases e
    have nI : ∀ b o, s.heap.get? b = some o → b ∉ ([s.heap.objs.size] : List Addr) := fun b o e z => by rw [List.mem_singleton.mp z, hIn] at e; cases e
    refine wpAny_pure ⟨plainId_quiet F.plain_min_loop _, min_loop hr (by show A.units + 150 < _; omega) W hSf hIn hSn (p :: ps) lst.symm hP _ 1 _ v _ p rfl (by rw [lst]; simp) (W.frame _ _ _ hst' fun b hb o e => kp b o (fun z => hSf (z ▸ hb)) e) (fun b o e => kp b o (nS b o e) (hk' b o (nI b o e) (k1 b o e))) rv (Heap.get?_update_self _ hS' rfl) fun v' h'' tk'' r' hk'' => ?_⟩
    have P1 := post_keeps hr hk''
    exact k as v' h'' tk'' P1 (r'.step hr P1.st)
end
noncomputable def frs (l : List Env) : List Addr := l.filterMap (·.frame)
abbrev errBm : List Value := [.type "Exception", .type "BaseException", .type "object"]

section
variable {g : Gx} {c : Cx} {env : Env} {ns ns' : List Str} {pos : Pos} {as as' as'' : List Addr} {lo : Lo} {H H' : AH} {h h' h'' : Heap}

theorem frs_cons {env : Env} {l : List Env} {L : Addr} (hf : env.frame = some L) : frs (env :: l) = L :: frs l := by unfold frs; rw [List.filterMap_cons, hf]
theorem funFrames_rebase {h₀ h base : Heap} {fs : List Addr} : ∀ {l : List Env}, h₀.FunFrames base l → (∀ b o, h₀.get? b = some o → h.get? b = some o) → (∀ a ∈ frs l, a ∈ fs) → h.FunFrames (hideAll h fs) l
  | [], _, _, _ => trivial
  | env :: rest, ⟨hk, ⟨L, o, hf, _, ho, hd⟩, hr⟩, k, hs => by
    rw [frs_cons hf] at hs
    exact ⟨hk, ⟨L, o, hf, hideAll_none _ (hs L (.head _)), k L o ho, hd⟩, funFrames_rebase hr k fun a ha => hs a (.tail _ ha)⟩

/-- a def's contract where it raises error_reply -/
noncomputable def CFr (g : Gx) (x : Str) (d : Nat) (B : List AV → AH → Option AH) : Prop :=
  ∀ (a : Addr) (c : Cx) (as : List Addr) (H : AH) (s : Shared) (Q E : Value → Shared → Prop) (vs : List Value) (xs : List AV) (H' : AH), g.mg x = some (.ref a) → Ok g c as s.heap → d ≤ c.lv → c.A.handled = none →
    HR as H s.heap → VRs s.heap as vs xs → B xs H = some H' →
    (∀ as' h2 fs e t C h' tk, Post as s.heap as' H' h2 → (∀ b ∈ fs, b ∈ frs (c.fenv :: c.outer) ∨ (s.heap.get? b = none ∧ ∃ m, h2.Ns b m)) → (∀ b ∈ fs, b ∉ as') → Heap.FlyingW (hideAll h2 fs) (c.fenv :: c.outer) e (.ref C) (.ref t) h' → h2.UpToSlots h' → g.mg "error_reply" = some (.ref C) →
      E (.ref e) { s with heap := h', toks := tk }) → wpAny g.M c.A (call (.ref a) vs) Q E s
noncomputable def raiseB (n k : Nat) (t : Lo → AH → Option (Bool × AH)) (f : Lo → AH → Option (AV × AH)) (xs : List AV) (H : AH) : Option AH :=
  if xs.length = n then (t (xs.map some ++ List.replicate k none) H).bind fun p => if p.1 then (f (xs.map some ++ List.replicate k none) p.2).map (·.2) else none else none

theorem CFr.of_body {d : DefRec} {ps ns : List Str} {k n : Nat} {t : Lo → AH → Option (Bool × AH)} {f : Lo → AH → Option (AV × AH)} {te ea : Expr} {np cpos rpos ipos : Pos} {rest : List Stmt} (hd : d ∈ recsOf g.p) (hb : ∀ (vs : List Value) (pm cd doc : Value), vs.length = ps.length → bindArgs (docDef d.name d.params d.body d.scope pm cd doc) ⟨vs, []⟩ = pure (ps.zip vs))
    (hp : ∀ y ∈ ps, d.scope.names.lookup y = some .local) (hc : ∀ x ∈ d.scope.names, x.2 ≠ .cell) (hns : ns.Nodup) (hpre : ps <+: ns)
    (hco : d.scope.isCoroutine = false) (hgen : d.scope.isGenerator = false) (hk : d.scope.kind = .function) (hsp : specOf g.p "error_reply" = some ("Exception.__new__", errBm))
    (hbody : d.body = .If te [.Raise (some (.Call (.Name "error_reply" np) [ea] [] cpos)) none rpos] [] ipos :: rest)
    (hx : d.scope.names.lookup ("error_reply" : Str) = some .globalImplicit)
    (hs1 : ∀ (a L : Addr) (cd : Value), starEach [ea] (envOf d.name d.scope L a cd) = (false, eval ea (envOf d.name d.scope L a cd)) :: starEach [] (envOf d.name d.scope L a cd))
    (hG : ∀ (c : Cx) (a L : Addr) (cd : Value), n ≤ c.lv → FEnv c (envOf d.name d.scope L a cd) ns → ST g c (envOf d.name d.scope L a cd) ns te t ∧ SE g c (envOf d.name d.scope L a cd) ns ea f) : CFr g d.name (n + 1) (raiseB ps.length k t f) := by
  intro a c as H s Q E vs xs H' hxa K0 hlv hh hr hv e q
  unfold raiseB at e
  split at e
  case isFalse => cases e
  rename_i hlenx
  obtain ⟨⟨tv, H1⟩, e1, e⟩ := Option.bind_eq_some_iff.mp e
  dsimp only at e
  split at e
  case isFalse => cases e
  rename_i htv
  subst htv
  obtain ⟨⟨fv, H2⟩, e2, e⟩ := Option.map_eq_some_iff.mp e
  cases e
  obtain ⟨m, F⟩ := K0.F
  obtain ⟨a', o, pm, code, doc, h1, h2, h3, h4⟩ := K0.fn hd
  rw [hxa] at h1; cases h1
  have hvl : vs.length = ps.length := by rw [hv.len, hlenx]
  have hpn : ps.Nodup := List.Nodup.sublist hpre.sublist hns
  have hzn : ((ps.zip vs).map (·.1)).Nodup := by rw [List.map_fst_zip (by omega)]; exact hpn
  refine wpAny_call (codeAny_call_def (fd := docDef d.name d.params d.body d.scope pm code doc) (body := d.body) (binds := ps.zip vs) (by have := K0.room; omega) h2 h3 (K0.T.nolimit.keeps F.keep) h4 rfl (.of_eq (hb vs pm code doc hvl)) hc (fun y hy => hp _ (List.of_mem_zip hy).1) (fun h₁ hN hkeep => ?_) hco hgen hk)
  show wpAny g.M (c.A.deeper (envOf d.name d.scope s.heap.objs.size a code)) (execs d.body (envOf d.name d.scope s.heap.objs.size a code)) _ _ _
  have st0 : Stp [] as s.heap as h₁ := ⟨List.prefix_refl _, fun _ h1 h2 => absurd h1 h2, fun b o e _ _ => hkeep b o e, fun b o e => ⟨o, hkeep b o e⟩⟩
  have hr1 : HR as H h₁ := hr.step st0.to0 fun a _ o e => hkeep a o e
  have hlo : LO (envOf d.name d.scope s.heap.objs.size a code) ns (xs.map some ++ List.replicate k none) as h₁ := by
    intro i x v e1 e2
    by_cases hi : i < xs.length
    · rw [List.getElem?_append_left (by simpa using hi), List.getElem?_map] at e2
      obtain ⟨y, e3, e4⟩ := Option.map_eq_some_iff.mp e2
      cases e4
      obtain ⟨u, e5, r⟩ := hv.get e3
      have e6 : ps[i]? = some x := by
        obtain ⟨t, ht⟩ := hpre
        rw [← ht, List.getElem?_append_left (by omega)] at e1; exact e1
      exact ⟨hk, u, r.step hr st0, .inl ⟨hp x (List.mem_of_getElem? e6), _, hN, lookup_rev hzn (lookup_zip hpn e6 e5)⟩⟩
    · rw [List.getElem?_append_right (by simpa using hi)] at e2
      have := List.mem_of_getElem? e2
      rw [List.mem_replicate] at this
      cases this.2
  have K1 : Ok g (c.into (envOf d.name d.scope s.heap.objs.size a code) s.heap.objs.size s.heap as) as h₁ := K0.into hr (by omega) rfl hk rfl hN hkeep
  have fe : FEnv (c.into (envOf d.name d.scope s.heap.objs.size a code) s.heap.objs.size s.heap as) (envOf d.name d.scope s.heap.objs.size a code) ns := ⟨⟨rfl, rfl, hk⟩, rfl, rfl, hns, .nil⟩
  obtain ⟨hT, hF⟩ := hG (c.into (envOf d.name d.scope s.heap.objs.size a code) s.heap.objs.size s.heap as) a s.heap.objs.size code (by show n ≤ c.lv - 1; omega) fe
  rw [hbody]
  refine wpAny_execs_cons (wpAny_If (hT as _ H { s with heap := h₁, toks := s.toks + (ps.zip vs).length } _ _ true H1 ⟨K1, hlo, hr1, fun _ h => (nomatch h)⟩ e1 fun as1 h2' tk1 po1 => ?_))
  simp only [if_true]
  have P1 : Pre g (c.into (envOf d.name d.scope s.heap.objs.size a code) s.heap.objs.size s.heap as) (envOf d.name d.scope s.heap.objs.size a code) ns as1 (xs.map some ++ List.replicate k none) H1 h2' := Pre.step ⟨K1, hlo, hr1, fun _ h => (nomatch h)⟩ po1
  refine wpAny_execs_cons ?_
  obtain ⟨C, O, _⟩ := K0.T.ownAt hsp
  have Oh := O.obj
  obtain ⟨bm, N, nm, q', bs, hdct, sn, sub, ab, col, dd, k0, k1, k2, k3, k5, mN, hC, hNN, hq, T⟩ := Oh
  have keepH : ∀ {as2 H2 hh}, Pre g (c.into (envOf d.name d.scope s.heap.objs.size a code) s.heap.objs.size s.heap as) (envOf d.name d.scope s.heap.objs.size a code) ns as2 (xs.map some ++ List.replicate k none) H2 hh → ∀ b o, c.h₀.get? b = some o → hh.get? b = some o := fun {as2 H2 hh} P b o e => by
    obtain ⟨m2, F2⟩ := P.ok.F
    exact F2.keep b o (hideAll_get _ (F.keep b o e) fun z => by have := K0.nw b z; rw [e] at this; cases this)
  refine wpAny_Raise_call_subT (C := C) (nm := nm) (q := q') (N := N) (bs := bs) (bm := bm) (hdct := hdct) (sn := sn) (sub := sub) (ab := ab) (col := col) (dd := dd) (k0 := k0) (k1 := k1) (k2 := k2) (k3 := k3) (k5 := k5) PySem.F.excBase_Exception (T.tail.hasType rfl) (mN := mN) hh (by rw [hs1]; rfl) (hq _ (.head _)) ?_
  refine eval_GK P1.ok ⟨rfl, rfl, hk⟩ O.bound ⟨rfl, ?_⟩ hx (by decide)
  rw [hs1]
  refine evalArgs_plain (?_ : wpAny _ _ (spliced (backTo cpos ((false, eval ea (envOf d.name d.scope s.heap.objs.size a code)) :: starEach [] (envOf d.name d.scope s.heap.objs.size a code)))) _ _ _)
  rw [← hs1]
  refine spliced_more (hF as1 _ H1 { s with heap := h2', toks := tk1 } _ _ fv H2 P1 e2 fun as2 u h3' tk2 po2 v2 => spliced_none ?_) (hs1 _ _ _)
  have P2 := P1.step po2
  obtain ⟨m2, F2⟩ := P2.ok.F
  refine ⟨rfl, by rw [sizeLine_eq]; simp, keepH P2 _ _ hC, hNN.keeps (keepH P2), T.tail.keeps (keepH P2), fun h4' e' hx' => ?_⟩
  have hfrs : frs (envOf d.name d.scope s.heap.objs.size a code :: c.fenv :: c.outer) = s.heap.objs.size :: frs (c.fenv :: c.outer) := frs_cons rfl
  refine wpAny_leaves_madeW (base := hideAll h3' (frs (envOf d.name d.scope s.heap.objs.size a code :: c.fenv :: c.outer))) (h := h3') (Around.frames_deeper K0.fr) rfl (fun b o e => of_hideAll _ e)
    ?_ hx' fun h5 t' hfl htup htn hsl => ?_
  · have h6 := K1.B.frames
    refine funFrames_rebase (base := c.base) (h₀ := h3') (l := envOf d.name d.scope s.heap.objs.size a code :: c.fenv :: c.outer) ⟨by show d.scope.kind ≠ _; rw [hk]; decide, ?_, ?_⟩ (fun b o e => e) fun a ha => ha
    · obtain ⟨oL, es, ep, hoL, hdL, _⟩ := F2.ns
      refine ⟨_, oL, rfl, ?_, hoL, fun vs z => by rw [hdL] at z; cases z⟩
      cases eb : c.base.get? s.heap.objs.size with
      | none => rfl
      | some o => have := F.keep _ o (K0.B.stays _ o eb); rw [size_none] at this; cases this
    · exact h6.of_keeps fun b o e _ => ⟨o, F2.keep b o e, rfl⟩
  · refine q as2 h3' _ e' t' C h5 _ (post_back hr P2.hr (po1.st.trans po2.st).pre (fun b o e n => hideAll_get _ e n) F2 P2.ok.nw) (fun b hb => ?_) (fun b hb hm => ?_) hfl ((Heap.UpToSlots.of_keeps hx'.keeps).trans hsl) O.bound
    · rw [hfrs] at hb
      rcases List.mem_cons.mp hb with rfl | hb
      · exact .inr ⟨size_none, _, F2.ns⟩
      · exact .inl hb
    · rw [hfrs] at hb
      rcases List.mem_cons.mp hb with rfl | hb
      · obtain ⟨oL, es, ep, hoL, hdL, _⟩ := F2.ns
        exact P2.hr.notDict hoL (by unfold seqy; rw [hdL]) hm
      · obtain ⟨_, o, ho, _⟩ := Heap.FunFrames.mem K1.B.frames hb
        have := P2.ok.nw b hm
        rw [ho] at this; cases this
end
/-- the frame with another ground -/
abbrev hz (c : Cx) (h₀ : Heap) : Cx := { c with h₀ := h₀ }
/-- one frame below, which a raise may touch -/
structure Out1 (c : Cx) (eo : Env) (Lz : Addr) : Prop where
  out : c.outer = [eo]
  fr : eo.frame = some Lz
structure Kp (Lz : Addr) (U as : List Addr) (h : Heap) (as' : List Addr) (h' : Heap) : Prop where
  st : Stp (Lz :: U) as h as' h'
  ns : ∀ m, h.Ns Lz m → h'.Ns Lz m

noncomputable def SXw (g : Gx) (c : Cx) (Lz : Addr) (env : Env) (ns : List Str) (st : Stmt) (G : Den) : Prop :=
  ∀ (as : List Addr) (lo : Lo) (H : AH) (s : Shared) (Q : Flow → Shared → Prop) (E : Value → Shared → Prop) (fl : AF) (lo' : Lo) (H' : AH), Pre g c env ns as lo H s.heap → (∃ m, s.heap.Ns Lz m) → G lo H = some (fl, lo', H') →
    (∀ h₀' as' f h' tk, Kp Lz (Us c env) as s.heap as' h' → Pre g (hz c h₀') env ns as' lo' H' h' → FR h' as' f fl → Q f { s with heap := h', toks := tk }) → wpAny g.M c.A (exec st env) Q E s
noncomputable def SSw (g : Gx) (c : Cx) (Lz : Addr) (env : Env) (ns : List Str) (st : List Stmt) (G : Den) : Prop :=
  ∀ (as : List Addr) (lo : Lo) (H : AH) (s : Shared) (Q : Flow → Shared → Prop) (E : Value → Shared → Prop) (fl : AF) (lo' : Lo) (H' : AH), Pre g c env ns as lo H s.heap → (∃ m, s.heap.Ns Lz m) → G lo H = some (fl, lo', H') →
    (∀ h₀' as' f h' tk, Kp Lz (Us c env) as s.heap as' h' → Pre g (hz c h₀') env ns as' lo' H' h' → FR h' as' f fl → Q f { s with heap := h', toks := tk }) → wpAny g.M c.A (execs st env) Q E s

/-- try: told or the handler -/
noncomputable def tryD (i : Nat) (fs : Lo → AH → Option (List AV × AH)) (F : List AV → AH → Option (AV × AH)) (B : List AV → AH → Option AH) (Gr Gh : Den) : Den := fun lo H => (fs lo H).bind fun p => match B p.1 p.2 with
  | some H' => Gh lo H'
  | none => (F p.1 p.2).bind fun z => Gr (lo.set i (some z.1)) z.2

section
variable {g : Gx} {c : Cx} {env : Env} {ns ns' : List Str} {pos : Pos} {as as' as'' : List Addr} {lo : Lo} {H H' : AH} {h h' h'' : Heap} {eo : Env} {Lz : Addr} {U : List Addr}

theorem Kp.trans (a : Kp Lz U as h as' h') (b : Kp Lz U as' h' as'' h'') : Kp Lz U as h as'' h'' := ⟨a.st.trans b.st, fun m x => b.ns m (a.ns m x)⟩
theorem Out1.notU (o : Out1 c eo Lz) (P : Pre g c env ns as lo H h) : Lz ∉ Us c env ∧ Lz ∉ as ∧ (∃ ob, c.h₀.get? Lz = some ob ∧ ∀ vs, ob.data ≠ .fields vs) ∧ c.base.get? Lz = none ∧ eo.scope.kind ≠ .module := by
  have hB := P.ok.B.frames
  rw [o.out] at hB
  obtain ⟨hk, ⟨L, ob, hf, hb, ho, hd⟩, _⟩ := hB
  rw [o.fr] at hf; cases hf
  refine ⟨fun m => ?_, fun m => ?_, ⟨ob, ho, hd⟩, hb, hk⟩
  · rcases List.mem_cons.mp m with z | m
    · obtain ⟨mF, F⟩ := P.ok.F
      have h1 := Heap.lt_size ho
      rw [z] at h1
      exact absurd (Nat.lt_of_lt_of_le h1 F.above) (Nat.lt_irrefl _)
    · obtain ⟨p, hp, z⟩ := List.mem_map.mp m
      have := (P.cl p hp).1
      rw [z, ho] at this; cases this
  · have := P.ok.nw _ m; rw [ho] at this; cases this
theorem Kp.of (o : Out1 c eo Lz) (P : Pre g c env ns as lo H h) (st : Stp (Us c env) as h as' h') : Kp Lz (Us c env) as h as' h' :=
  ⟨st.weaken fun x hx => .tail _ hx, fun m n => ns_keep n P.hr st.to0 (o.notU P).1⟩
theorem SX.toW {st : Stmt} {G : Den} (o : Out1 c eo Lz) (h1 : SX g c env ns st G) : SXw g c Lz env ns st G := fun as lo H s Q E fl lo' H' P _ q k =>
  h1 as lo H s Q E fl lo' H' P q fun as' f h' tk st P' hf => k c.h₀ as' f h' tk (.of o P st) P' hf
theorem SS.toW {st : List Stmt} {G : Den} (o : Out1 c eo Lz) (h1 : SS g c env ns st G) : SSw g c Lz env ns st G := fun as lo H s Q E fl lo' H' P _ q k =>
  h1 as lo H s Q E fl lo' H' P q fun as' f h' tk st P' hf => k c.h₀ as' f h' tk (.of o P st) P' hf
theorem SSw.cons {st : Stmt} {sts : List Stmt} {a b : Den} (h1 : SXw g c Lz env ns st a) (h2 : ∀ h₀', SSw g (hz c h₀') Lz env ns sts b) : SSw g c Lz env ns (st :: sts) (seqD a b) := by
  intro as lo H s Q E fl lo' H' P hL q k
  obtain ⟨⟨f1, lo1, H1⟩, e1, q⟩ := Option.bind_eq_some_iff.mp q
  refine wpAny_execs_cons (h1 as lo H s _ _ f1 lo1 H1 P hL e1 fun hz1 as1 f ha tk1 st1 P1 hf => ?_)
  cases f1 with
  | next =>
    cases f <;> first | exact hf.elim | skip
    exact h2 hz1 as1 lo1 H1 { s with heap := ha, toks := tk1 } _ _ fl lo' H' P1 (hL.imp st1.ns) q fun hz2 as2 f2 h2 tk2 st2 P2 hf2 => k hz2 as2 f2 h2 tk2 (st1.trans st2) P2 hf2
  | brk => cases q; cases f <;> first | exact hf.elim | exact k hz1 as1 _ ha tk1 st1 P1 hf
  | cont => cases q; cases f <;> first | exact hf.elim | exact k hz1 as1 _ ha tk1 st1 P1 hf
  | ret v => cases q; cases f <;> first | exact hf.elim | exact k hz1 as1 _ ha tk1 st1 P1 hf
theorem SXw.ite {e : Expr} {st1 st2 : List Stmt} {t : Lo → AH → Option (Bool × AH)} {a b : Den} (o : Out1 c eo Lz) (ht : ST g c env ns e t) (h1 : SSw g c Lz env ns st1 a) (h2 : SSw g c Lz env ns st2 b) : SXw g c Lz env ns (.If e st1 st2 pos) (iteD t a b) := by
  intro as lo H s Q E fl lo' H' P hL q k
  obtain ⟨⟨v, H1⟩, e1, q⟩ := Option.bind_eq_some_iff.mp q
  refine wpAny_If (ht as lo H s _ _ v H1 P e1 fun as1 ha tk1 P1 => ?_)
  have kp1 : Kp Lz (Us c env) as s.heap as1 ha := .of o P P1.up
  cases v with
  | true => simp only [if_true] at q ⊢; exact h1 as1 lo H1 { s with heap := ha, toks := tk1 } _ _ fl lo' H' (P.step P1) (hL.imp kp1.ns) q fun hz2 as2 f h2 tk2 st P2 hf => k hz2 as2 f h2 tk2 (kp1.trans st) P2 hf
  | false => simp only [Bool.false_eq_true, if_false] at q ⊢; exact h2 as1 lo H1 { s with heap := ha, toks := tk1 } _ _ fl lo' H' (P.step P1) (hL.imp kp1.ns) q fun hz2 as2 f h2 tk2 st P2 hf => k hz2 as2 f h2 tk2 (kp1.trans st) P2 hf
theorem SXw.while {e : Expr} {st : List Stmt} {t : Lo → AH → Option (Bool × AH)} {b : Den} (n : Nat) (o : Out1 c eo Lz) (ht : ∀ h₀', ST g (hz c h₀') env ns e t) (h1 : ∀ h₀', SSw g (hz c h₀') Lz env ns st b) : SXw g c Lz env ns (.While e st [] pos) (whileD t b n) := by
  intro as lo H s Q E fl lo' H' P hL q k
  refine wpAny_mono (E := fun _ _ => False) ?_ (fun _ _ x => x) fun _ _ x => x.elim
  refine wpAny_While (codeAny_whileLoop (fun n s' => ∃ z0 as1 lo1 H1 h1 tk1, s' = { s with heap := h1, toks := tk1 } ∧ Kp Lz (Us c env) as s.heap as1 h1 ∧ Pre g (hz c z0) env ns as1 lo1 H1 h1 ∧ whileD t b n lo1 H1 = some (fl, lo', H')) ?_ n ⟨c.h₀, as, lo, H, s.heap, s.toks, rfl, ⟨.refl, fun _ x => x⟩, P, q⟩)
  rintro n s' ⟨z0, as1, lo1, H1, hp1, tk1, rfl, st1, P1, q⟩
  cases n with
  | zero => cases q
  | succ n =>
    obtain ⟨⟨v, H2⟩, e1, q⟩ := Option.bind_eq_some_iff.mp q
    have o1 : Out1 (hz c z0) eo Lz := ⟨o.out, o.fr⟩
    refine ht z0 as1 lo1 H1 _ _ _ v H2 P1 e1 fun as2 hp2 tk2 P2 => ?_
    have st2 := st1.trans (Kp.of (c := hz c z0) o1 P1 P2.up)
    cases v with
    | false =>
      simp only [Bool.false_eq_true, if_false] at q ⊢
      cases q
      exact wpAny_execs_nil (k z0 as2 .next hp2 tk2 st2 (P1.step P2) trivial)
    | true =>
      simp only [if_true] at q ⊢
      obtain ⟨⟨f1, lo3, H3⟩, e2, q⟩ := Option.bind_eq_some_iff.mp q
      refine h1 z0 as2 lo1 H2 { s with heap := hp2, toks := tk2 } _ _ f1 lo3 H3 (P1.step P2) (hL.imp st2.ns) e2 fun z3 as3 f hp3 tk3 st3 P3 hf => ?_
      have st4 := st2.trans st3
      cases f1 with
      | next => cases f <;> first | exact hf.elim | exact ⟨n, Nat.lt_succ_self n, z3, as3, lo3, H3, hp3, tk3, rfl, st4, P3, q⟩
      | cont => cases f <;> first | exact hf.elim | exact ⟨n, Nat.lt_succ_self n, z3, as3, lo3, H3, hp3, tk3, rfl, st4, P3, q⟩
      | brk => cases q; cases f <;> first | exact hf.elim | exact k z3 as3 .next hp3 tk3 st4 P3 trivial
      | ret v => cases q; cases f <;> first | exact hf.elim | exact k z3 as3 _ hp3 tk3 st4 P3 hf

/-- behind a raise that was caught: the frame stands on another ground -/
theorem raised {h2 h6 : Heap} {fs : List Addr} (o : Out1 c eo Lz) (fe : FEnv c env ns) (P : Pre g c env ns as lo H h) (hL : ∃ m, h.Ns Lz m) (po : Post as h as' H' h2) (hf1 : ∀ b ∈ fs, b ∈ frs (c.fenv :: c.outer) ∨ (h.get? b = none ∧ ∃ m, h2.Ns b m)) (hf2 : ∀ b ∈ fs, b ∉ as')
    (hst : (hideAll h2 fs).StaysIn h6) (hsl : h2.UpToSlots h6) : ∃ z, Kp Lz (Us c env) as h as' h6 ∧ Pre g (hz c z) env ns as' lo H' h6 := by
  obtain ⟨nU, nA, ⟨ob, hob, hobd⟩, hbL, hkm⟩ := o.notU P
  have P2 := P.step po
  obtain ⟨nU2, nA2, _⟩ := o.notU P2
  obtain ⟨m2, F2⟩ := P2.ok.F
  obtain ⟨mL, hLn⟩ := hL
  have hL2 : h2.Ns Lz mL := ns_keep hLn P.hr po.st.to0 fun z => (nomatch z)
  obtain ⟨ob', es', ep', hob', hdb', _⟩ := id hL2
  obtain ⟨sl, hob6⟩ := hsl Lz ob' hob' fun vs z => by rw [hdb'] at z; cases z
  have kept : ∀ b o, h2.get? b = some o → b ∉ fs → h6.get? b = some o := fun b o e n => hst b o (hideAll_get _ e n)
  have isL : frs (c.fenv :: c.outer) = [c.L, Lz] := by rw [frs_cons P.ok.ff, o.out]; unfold frs; rw [List.filterMap_cons, o.fr]; rfl
  have nsAll : ∀ b ∈ fs, ∃ m, h2.Ns b m := fun b hb => by
    rcases hf1 b hb with z | z
    · rw [isL] at z
      rcases List.mem_cons.mp z with rfl | z
      · exact ⟨_, F2.ns⟩
      · rw [List.mem_singleton.mp z]; exact ⟨_, hL2⟩
    · exact z.2
  have nseq : ∀ b ∈ fs, ∀ o, h2.get? b = some o → seqy o = false := fun b hb o e => by
    obtain ⟨m, o', es, ep, ho', hd', _⟩ := nsAll b hb
    rw [e] at ho'; cases ho'
    unfold seqy; rw [hd']
  have st26 : Stp0 fs as' h2 as' h6 := ⟨List.prefix_refl _, fun _ a1 a2 => absurd a1 a2, fun b o e n u => kept b o e fun z => by have := nseq b z o e; rw [u z] at this; cases this⟩
  have hr6 : HR as' H' h6 := po.hr.step st26 fun a ha o e => kept a o e fun z => hf2 a z ha
  have old : ∀ b o, h.get? b = some o → b ∉ as → b ≠ c.L → b ≠ Lz → h6.get? b = some o := fun b o e n n1 n2 => by
    refine kept b o (po.st.keep b o e n fun z => (nomatch z)) fun z => ?_
    rcases hf1 b z with y | y
    · rw [isL] at y
      rcases List.mem_cons.mp y with rfl | y
      · exact n1 rfl
      · exact n2 (List.mem_singleton.mp y)
    · rw [e] at y; cases y.1
  have kp : Kp Lz (Us c env) as h as' h6 := by
    refine ⟨⟨po.st.pre, po.st.new, fun b o e n u => ?_, fun b o e => ?_⟩, fun m x => hsl.ns (ns_keep x P.hr po.st.to0 fun z => (nomatch z))⟩
    · have e2 := po.st.keep b o e n fun z => (nomatch z)
      refine kept b o e2 fun z => ?_
      rcases hf1 b z with y | y
      · rw [isL] at y
        have : b ∈ Lz :: Us c env := by
          rcases List.mem_cons.mp y with rfl | y
          · exact .tail _ (.head _)
          · rw [List.mem_singleton.mp y]; exact .head _
        have q := nseq b z o e2
        rw [u this] at q; cases q
      · rw [e] at y; cases y.1
    · obtain ⟨o', e'⟩ := po.st.dom b o e
      by_cases hb : b ∈ fs
      · obtain ⟨m, ob1, es, ep, ho1, hd1, _⟩ := nsAll b hb
        obtain ⟨sl, e6⟩ := hsl b ob1 ho1 fun vs z => by rw [hd1] at z; cases z
        exact ⟨_, e6⟩
      · exact ⟨o', kept b o' e' hb⟩
  have fresh : (({ ob' with slots := sl } : Obj)).isFreed = false := by
    obtain ⟨c1, d1, dt1, s1⟩ := ob'
    simp only at hdb'; subst hdb'; rfl
  have z0 : ∀ b, b ≠ Lz → (c.h₀.update Lz fun _ => { ob' with slots := sl }).get? b = c.h₀.get? b := fun b n => Heap.get?_update_ne _ _ _ _ n
  have zL : (c.h₀.update Lz fun _ => { ob' with slots := sl }).get? Lz = some { ob' with slots := sl } := Heap.get?_update_self _ hob fresh
  have stays : c.base.StaysIn (c.h₀.update Lz fun _ => { ob' with slots := sl }) := fun b o e => by
    rw [z0 b fun z => by rw [z, hbL] at e; cases e]; exact P.ok.B.stays b o e
  refine ⟨c.h₀.update Lz fun _ => { ob' with slots := sl }, kp, ⟨⟨P.ok.B.stack, stays, ?_⟩, P.ok.Tb.keeps stays, P.ok.Tb, P.ok.fr, P.ok.ff, P.ok.fk, P.ok.room, P.ok.units, ⟨m2, hsl.ns F2.ns, fun b o e => ?_, ?_⟩, fun a ha => ?_⟩, fun i x v e1 e2 => ?_, hr6, fun p hp => ⟨?_, ?_⟩⟩
  · show Heap.FunFrames _ c.base c.outer
    rw [o.out]
    exact ⟨hkm, ⟨Lz, _, o.fr, hbL, zL, fun vs z => by simp only [hdb'] at z; cases z⟩, trivial⟩
  · by_cases hb : b = Lz
    · subst hb
      have e' := e
      rw [show ({ c with h₀ := c.h₀.update b fun _ => { ob' with slots := sl } } : Cx).h₀ = c.h₀.update b fun _ => { ob' with slots := sl } from rfl, zL] at e'
      cases e'; exact hob6
    · have e' : c.h₀.get? b = some o := by rw [← z0 b hb]; exact e
      refine kept b o (F2.keep b o e') fun z => ?_
      rcases hf1 b z with y | y
      · rw [isL] at y
        rcases List.mem_cons.mp y with rfl | y
        · have h1 := Heap.lt_size e'
          exact absurd (Nat.lt_of_lt_of_le h1 F2.above) (Nat.lt_irrefl _)
        · exact hb (List.mem_singleton.mp y)
      · obtain ⟨mF, F⟩ := P.ok.F
        have := F.keep b o e'; rw [y.1] at this; cases this
  · show (c.h₀.update Lz _).objs.size ≤ c.L
    rw [Heap.size_update]; exact F2.above
  · show (c.h₀.update Lz _).get? a = none
    rw [z0 a fun z => nA2 (z ▸ ha)]; exact P2.ok.nw a ha
  · obtain ⟨q1, u', q2, q3⟩ := P2.lo i x v e1 e2
    refine ⟨q1, u', q2.step0 P2.hr st26, q3.imp (fun ⟨a1, m', a2, a3⟩ => ⟨a1, m', hsl.ns a2, a3⟩) fun ⟨a1, b, a2, a3⟩ => ⟨a1, b, a2, ?_⟩⟩
    obtain ⟨oc, hoc, hdc⟩ := a3
    exact ⟨oc, kept b oc hoc fun z => (by obtain ⟨m, o1, es, ep, ho1, hd1, _⟩ := nsAll b z; rw [hoc] at ho1; cases ho1; rw [hdc] at hd1; cases hd1), hdc⟩
  · show (c.h₀.update Lz _).get? p.2 = none
    have hp1 := (P2.cl p hp).1
    rw [z0 p.2 fun z => by rw [z, hob] at hp1; cases hp1]; exact hp1
  · obtain ⟨w, oc, hoc, hdc⟩ := (P2.cl p hp).2
    exact ⟨w, oc, kept p.2 oc hoc fun z => (by obtain ⟨m, o1, es, ep, ho1, hd1, _⟩ := nsAll p.2 z; rw [hoc] at ho1; cases ho1; rw [hdc] at hd1; cases hd1), hdc⟩

theorem SXw.try {x f : Str} {i d1 d2 : Nat} {hn : Bool} {p2 p3 p4 p5 np hpos : Pos} {e : Expr} {es : List Expr} {brest : List Stmt} {b₀ : Stmt} {suite : List Stmt} {dr : DefRec} {fs : Lo → AH → Option (List AV × AH)} {F : List AV → AH → Option (AV × AH)} {B : List AV → AH → Option AH} {Gr Gh : Den}
    (o : Out1 c eo Lz) (fe : FEnv c env ns) (hi : ns[i]? = some x) (hh : c.A.handled = none) (hf : CF g f d1 hn F) (hr : CFr g f d2 B) (hd : dr ∈ recsOf g.p) (hx : dr.name = f) (hl1 : d1 ≤ c.lv) (hl2 : d2 ≤ c.lv) (hsp : specOf g.p "error_reply" = some ("Exception.__new__", errBm))
    (hs : SEs g c env ns (e :: es) fs) (hrest : SS g c env ns brest Gr) (hhd : ∀ (h₀' : Heap) (ev : Value), SS g { c with A := c.A.mark (some ev), h₀ := h₀' } env ns (b₀ :: suite) Gh)
    (hk : env.kindOf f = some .globalImplicit := by rfl) (hdb : (f == ("__debug__" : Str)) = false := by decide) (hkx : env.kindOf x = some .local := by rfl) (hke : env.kindOf "error_reply" = some .globalImplicit := by rfl) (h1 : starEach (e :: es) env = (false, eval e env) :: starEach es env := by rfl)
    (h3 : eval (.Call (.Name f p3) (e :: es) [] p4) env = (do callWith p4 (← eval (.Name f p3) env) [] (backTo p4 (starEach (e :: es) env)) (backToKw p4 (keywordEach [] env))) := by rfl)
    (hw : swapsWith (.Call (.Name f p3) (e :: es) [] p4) (some (.Name x p2)) p5.line env = pure false := by rfl) :
    SXw g c Lz env ns (.Try (.Assign [.Name x p2] (.Call (.Name f p3) (e :: es) [] p4) p5 :: brest) [.ExceptHandler (some (.Name "error_reply" np)) none (b₀ :: suite) hpos] [] [] pos) (tryD i fs F B Gr Gh) := by
  intro as lo H s Q E fl lo' H' P hL q k
  unfold tryD at q
  obtain ⟨⟨xs, H1⟩, e1, q⟩ := Option.bind_eq_some_iff.mp q
  obtain ⟨a, ob, pm, code, doc, g1, g2, g3, g4⟩ := P.ok.fn hd
  rw [hx] at g1
  have ho : seqy ob = false := by unfold seqy; rw [g3]
  have fin : ∀ (f : Flow) (s₁ : Shared), Q f s₁ → (match f with | .next => wpAny g.M c.A (execs [] env) Q E s₁ | f => Q f s₁) := fun f s₁ h => by cases f <;> first | exact h | exact wpAny_execs_nil h
  refine wpAny_Try_except ?_
  refine wpAny_execs_cons (wpAny_Assign_Name (Call_ (eval_GK P.ok fe.toEnvOk g1 (callWith_def_at g2 g3 (hs p4 as lo H s _ _ xs H1 P e1 fun as1 vs ha tk1 P1 v1 => ⟨P1.st.keep a ob g2 (P.hr.notDict g2 ho) fun z => (nomatch z), ?_⟩) h1) hk hdb) h3) hw)
  have Q1 := P.step P1
  have kp1 : Kp Lz (Us c env) as s.heap as1 ha := .of o P P1.up
  dsimp only at q
  split at q
  · rename_i HB hB
    refine hr a c as1 H1 { s with heap := ha, toks := tk1 } _ _ vs xs HB g1 Q1.ok hl2 hh P1.hr v1 hB fun as2 h2 fs' ev t C h' tk po hf1 hf2 hfl hsl hC => ?_
    have hfe : c.A.frames = some (env :: c.outer) := by rw [P.ok.fr, fe.own]
    rw [fe.own] at hfl
    refine wpAny_looks_onW hfe (fe.own ▸ P.ok.ff) hfl fun h₄ hheld₄ hsm₄ => ?_
    refine wpAny_landsW hheld₄ fun h₅ hheld hsm₅ => ?_
    have s5 : h2.UpToSlots h₅ := hsl.trans (hsm₄.trans hsm₅)
    obtain ⟨z5, kp5, P5⟩ := raised o fe Q1 (hL.imp kp1.ns) po hf1 hf2 hheld.1 s5
    obtain ⟨C', O, _⟩ := P5.ok.T.ownAt hsp
    have hCC : C' = C := by have := O.bound; rw [hC] at this; cases this; rfl
    subst hCC
    obtain ⟨m5, F5⟩ := P5.ok.F
    obtain ⟨oe, hoe, hoec⟩ := hheld.there
    refine handleBy_own (C := C') (mg := g.mg) (bmB := errBm) (newId := "Exception.__new__") (x := "error_reply") rfl (eval_GK (A := c.A.mark (some (.ref ev))) P5.ok fe.toEnvOk hC ⟨rfl, O.keeps F5.keep, ⟨oe, hoe, hoec⟩, ?_⟩ hke (by decide))
    refine lands_againW hheld fun h₆ hfl₆ hsm₆ => ?_
    obtain ⟨z6, kp6, P6⟩ := raised o fe Q1 (hL.imp kp1.ns) po hf1 hf2 hfl₆.1 (s5.trans hsm₆)
    have P6' : Pre g { c with A := c.A.mark (some (.ref ev)), h₀ := z6 } env ns as2 lo HB h₆ := ⟨⟨P6.ok.B, P6.ok.T, P6.ok.Tb, P6.ok.fr, P6.ok.ff, P6.ok.fk, P6.ok.room, P6.ok.units, P6.ok.F, P6.ok.nw⟩, P6.lo, P6.hr, P6.cl⟩
    have o6 : Out1 (hz c z6) eo Lz := ⟨o.out, o.fr⟩
    refine hhd z6 (.ref ev) as2 lo HB { s with heap := h₆, toks := tk } _ _ fl lo' H' P6' q fun as3 f3 h7 tk7 st7 P7 hf7 => ?_
    have P7' : Pre g (hz c z6) env ns as3 lo' H' h7 := ⟨⟨P7.ok.B, P7.ok.T, P7.ok.Tb, P7.ok.fr, P7.ok.ff, P7.ok.fk, P7.ok.room, P7.ok.units, P7.ok.F, P7.ok.nw⟩, P7.lo, P7.hr, P7.cl⟩
    exact k z6 as3 f3 h7 tk7 ((kp1.trans kp6).trans (Kp.of (c := hz c z6) o6 P6 st7)) P7' hf7
  · obtain ⟨⟨z, H2⟩, e2, q⟩ := Option.bind_eq_some_iff.mp q
    refine hf a c as1 H1 { s with heap := ha, toks := tk1 } _ _ vs xs z H2 g1 Q1.ok hl1 (fun _ => hh) P1.hr v1 e2 fun as2 u hb tk2 P2 v2 => ?_
    refine store_local fe hi hkx (Q1.step P2) v2 fun h3 tk3 st3 P3 => ?_
    refine hrest as2 _ H2 { s with heap := h3, toks := tk3 } _ _ fl lo' H' P3 q fun as4 f4 h4 tk4 st4 P4 hf4 => fin _ _ ?_
    exact k c.h₀ as4 f4 h4 tk4 (kp1.trans (Kp.of o Q1 ((P2.up.trans st3).trans st4))) P4 hf4
end
/-- a def's contract where a raise may touch the frame below -/
noncomputable def CFw (g : Gx) (x : Str) (d : Nat) (F : List AV → AH → Option (AV × AH)) : Prop :=
  ∀ (a : Addr) (c : Cx) (as : List Addr) (H : AH) (s : Shared) (Q E : Value → Shared → Prop) (vs : List Value) (xs : List AV) (z : AV) (H' : AH), g.mg x = some (.ref a) → Ok g c as s.heap → c.outer = [] → d ≤ c.lv → c.A.handled = none →
    HR as H s.heap → VRs s.heap as vs xs → F xs H = some (z, H') →
    (∀ as' v h' tk, Stp [c.L] as s.heap as' h' → HR as' H' h' → (∀ m, s.heap.Ns c.L m → h'.Ns c.L m) → VR h' as' v z → Q v { s with heap := h', toks := tk }) → wpAny g.M c.A (call (.ref a) vs) Q E s

section
variable {g : Gx} {c : Cx} {env : Env} {ns ns' : List Str} {pos : Pos} {as as' as'' : List Addr} {lo : Lo} {H H' : AH} {h h' h'' : Heap}

theorem CFw.of_bodyC {d : DefRec} {ps ns : List Str} {k n : Nat} {G : Den} (hd : d ∈ recsOf g.p) (hb : ∀ (vs : List Value) (pm cd doc : Value), vs.length = ps.length → bindArgs (docDef d.name d.params d.body d.scope pm cd doc) ⟨vs, []⟩ = pure (ps.zip vs))
    (hp : ∀ y ∈ ps, ∀ q, d.scope.names.lookup y = some .local ∨ (d.scope.names.lookup y = some .cell ∧ ((cellsFrom q d.scope.names []).lookup y).isSome = true)) (hns : ns.Nodup) (hpre : ps <+: ns) (hnd : ∀ q, ((cellsFrom q d.scope.names []).map (·.2)).Nodup)
    (hco : d.scope.isCoroutine = false) (hgen : d.scope.isGenerator = false) (hk : d.scope.kind = .function) (hmem : ∀ q, ∀ p ∈ cellsFrom q d.scope.names [], (cellsFrom q d.scope.names []).lookup p.1 = some p.2)
    (hG : ∀ (c : Cx) (a L : Addr) (cd : Value) (eo : Env) (Lz : Addr), n ≤ c.lv → c.A.handled = none → FEnv c (envOfC d.name d.scope L a cd) ns → Out1 c eo Lz → SSw g c Lz (envOfC d.name d.scope L a cd) ns d.body G) : CFw g d.name (n + 1) (bodyD ps.length k G) := by
  intro a c as H s Q E vs xs z H' hx K0 hout hlv hh hr hv e q
  unfold bodyD at e
  split at e
  case isFalse => cases e
  rename_i hlenx
  obtain ⟨⟨fl, lo', H1⟩, e1, e2⟩ := Option.bind_eq_some_iff.mp e
  obtain ⟨m, F⟩ := K0.F
  obtain ⟨a', o, pm, code, doc, h1, h2, h3, h4⟩ := K0.fn hd
  rw [hx] at h1; cases h1
  have hvl : vs.length = ps.length := by rw [hv.len, hlenx]
  have hpn : ps.Nodup := List.Nodup.sublist hpre.sublist hns
  have hzn : ((ps.zip vs).map (·.1)).Nodup := by rw [List.map_fst_zip (by omega)]; exact hpn
  refine wpAny_call (codeAny_call_function (fd := docDef d.name d.params d.body d.scope pm code doc) (body := d.body) (by have := K0.room; omega) h2 h3 hco hgen rfl h4 ?_)
  rw [hb vs pm code doc hvl]
  refine wpAny_pure (wpAny_newFunctionEnv_cells hk (fun y hy => hp _ (List.of_mem_zip hy).1 _) fun env' he s' x => ?_)
  subst he
  refine ⟨(K0.T.nolimit.keeps F.keep).keeps x.toInCall.keep, codeAny_func ?_⟩
  obtain ⟨h₁, tk, rfl, hkeep⟩ := x.done
  show wpAny g.M (c.A.deeper (envOfC d.name d.scope s.heap.objs.size a code)) (execs d.body (envOfC d.name d.scope s.heap.objs.size a code)) _ _ _
  have hNs := x.toInCall.ns
  have hcell := x.cell
  have habove := x.above
  have st0 : Stp [] as s.heap as h₁ := ⟨List.prefix_refl _, fun _ h1 h2 => absurd h1 h2, fun b o e _ _ => hkeep b o e, fun b o e => ⟨o, hkeep b o e⟩⟩
  have hr1 : HR as H h₁ := hr.step st0.to0 fun a _ o e => hkeep a o e
  have hlo : LO (envOfC d.name d.scope s.heap.objs.size a code) ns (xs.map some ++ List.replicate k none) as h₁ := by
    intro i y v e1 e2
    by_cases hi : i < xs.length
    · rw [List.getElem?_append_left (by simpa using hi), List.getElem?_map] at e2
      obtain ⟨y', e3, e4⟩ := Option.map_eq_some_iff.mp e2
      cases e4
      obtain ⟨u, e5, r⟩ := hv.get e3
      have e6 : ps[i]? = some y := by
        obtain ⟨t, ht⟩ := hpre
        rw [← ht, List.getElem?_append_left (by omega)] at e1; exact e1
      have hzm : (y, u) ∈ ps.zip vs := mem_zip_of e6 e5
      refine ⟨hk, u, r.step hr st0, ?_⟩
      rcases hp y (List.mem_of_getElem? e6) (s.heap.objs.size + 1) with hl | ⟨hl, hs⟩
      · exact .inl ⟨hl, _, hNs, bindL_get hzn hzm hl⟩
      · obtain ⟨ca, hca⟩ := Option.isSome_iff_exists.mp hs
        refine .inr ⟨hl, ca, hca, ?_⟩
        have ne : (envOfC d.name d.scope s.heap.objs.size a code).kindOf y ≠ some .local := by show d.scope.names.lookup y ≠ _; rw [hl]; decide
        rw [show (some u : Option Value) = bindC (envOfC d.name d.scope s.heap.objs.size a code).kindOf (ps.zip vs) (fun _ => none) y from (bindC_get hzn hzm ne).symm]
        exact hcell y ca hca
    · rw [List.getElem?_append_right (by simpa using hi)] at e2
      have := List.mem_of_getElem? e2
      rw [List.mem_replicate] at this
      cases this.2
  have K1 : Ok g (c.into (envOfC d.name d.scope s.heap.objs.size a code) s.heap.objs.size s.heap as) as h₁ := K0.into hr (by omega) rfl hk rfl hNs hkeep
  have hcl : ∀ p ∈ (envOfC d.name d.scope s.heap.objs.size a code).cells, (hideAll s.heap as).get? p.2 = none ∧ ∃ w, h₁.IsCell p.2 w := fun p hp' => by
    refine ⟨?_, _, hcell p.1 p.2 (hmem _ p hp')⟩
    cases e : (hideAll s.heap as).get? p.2 with
    | none => rfl
    | some o =>
      have h5 := Heap.lt_size (of_hideAll _ e)
      have h6 := habove p.1 p.2 hp'
      exact absurd (Nat.lt_trans h5 h6) (Nat.lt_irrefl _)
  refine hG (c.into (envOfC d.name d.scope s.heap.objs.size a code) s.heap.objs.size s.heap as) a s.heap.objs.size code c.fenv c.L (by show n ≤ c.lv - 1; omega) hh ⟨⟨rfl, rfl, hk⟩, rfl, rfl, hns, hnd _⟩ ⟨by show c.fenv :: c.outer = _; rw [hout], K0.ff⟩ as _ H { s with heap := h₁, toks := tk } _ _ fl lo' H1 ⟨K1, hlo, hr1, hcl⟩ ⟨m, ns_keep F.ns hr st0.to0 fun z => (nomatch z)⟩ e1 fun z0 as2 f h2 tk2 kp P2 hf => ?_
  obtain ⟨rfl, hvr⟩ := endD_flow e2 hf
  have nL : ∀ b o, s.heap.get? b = some o → b ∉ as → b ∉ Us (c.into (envOfC d.name d.scope s.heap.objs.size a code) s.heap.objs.size s.heap as) (envOfC d.name d.scope s.heap.objs.size a code) := fun b o e n m => by
    rcases List.mem_cons.mp m with rfl | m
    · rw [size_none] at e; cases e
    · obtain ⟨p, hp', rfl⟩ := List.mem_map.mp m
      have := (hcl p hp').1
      rw [hideAll_get _ e n] at this; cases this
  refine q as2 _ h2 tk2 ⟨kp.st.pre, fun a ha hn' => ?_, fun b o e n u => ?_, fun b o e => kp.st.dom b o (hkeep b o e)⟩ P2.hr (fun m x => kp.ns m (ns_keep x hr st0.to0 fun z => (nomatch z))) hvr
  · have q1 := kp.st.new a ha hn'
    cases e : s.heap.get? a with
    | none => rfl
    | some o => rw [hkeep a o e] at q1; cases q1
  · refine kp.st.keep b o (hkeep b o e) n fun z => ?_
    rcases List.mem_cons.mp z with rfl | z
    · exact u (.head _)
    · exact absurd z (nL b o e n)

/-! in the caller -/
noncomputable def SEw (g : Gx) (c : Cx) (env : Env) (ns : List Str) (e : Expr) (f : Lo → AH → Option (AV × AH)) : Prop :=
  ∀ (as : List Addr) (lo : Lo) (H : AH) (s : Shared) (Q E : Value → Shared → Prop) (x : AV) (H' : AH), Pre g c env ns as lo H s.heap → f lo H = some (x, H') →
    (∀ as' v h' tk, Stp [c.L] as s.heap as' h' → Pre g c env ns as' lo H' h' → VR h' as' v x → Q v { s with heap := h', toks := tk }) → wpAny g.M c.A (eval e env) Q E s
theorem SEw.call {x : Str} {d : Nat} {e : Expr} {es : List Expr} {p2 : Pos} {F : List AV → AH → Option (AV × AH)} {fs : Lo → AH → Option (List AV × AH)} {dr : DefRec} (hf : CFw g x d F) (hd : dr ∈ recsOf g.p) (hx : dr.name = x) (hout : c.outer = []) (hlv : d ≤ c.lv) (hh : c.A.handled = none) (fe : FEnv c env ns) (hcs : env.cells = []) (hs : SEs g c env ns (e :: es) fs)
    (hk : env.kindOf x = some .globalImplicit := by rfl) (hdb : (x == ("__debug__" : Str)) = false := by decide) (h1 : starEach (e :: es) env = (false, eval e env) :: starEach es env := by rfl)
    (h3 : eval (.Call (.Name x p2) (e :: es) [] pos) env = (do callWith pos (← eval (.Name x p2) env) [] (backTo pos (starEach (e :: es) env)) (backToKw pos (keywordEach [] env))) := by rfl) :
    SEw g c env ns (.Call (.Name x p2) (e :: es) [] pos) (callD F fs) := by
  intro as lo H s Q E v H' P q k
  unfold callD at q
  obtain ⟨⟨xs, H1⟩, e1, q⟩ := Option.bind_eq_some_iff.mp q
  obtain ⟨a, o, pm, code, doc, g1, g2, g3, g4⟩ := P.ok.fn hd
  rw [hx] at g1
  have ho : seqy o = false := by unfold seqy; rw [g3]
  refine Call_ (eval_GK P.ok fe.toEnvOk g1 (callWith_def_at g2 g3 (hs pos as lo H s _ _ xs H1 P e1 fun as1 vs ha tk1 P1 v1 => ⟨P1.st.keep a o g2 (P.hr.notDict g2 ho) fun z => (nomatch z), ?_⟩) h1) hk hdb) h3
  have Q1 := P.step P1
  refine hf a c as1 H1 _ _ _ vs xs v H' g1 Q1.ok hout hlv hh P1.hr v1 q fun as2 u hb tk2 st2 hr2 ns2 v2 => ?_
  refine k as2 u hb tk2 ((P1.st.weaken fun _ m => (nomatch m)).trans st2) ?_ v2
  obtain ⟨m, F1⟩ := Q1.ok.F
  have keep : ∀ b o, c.h₀.get? b = some o → hb.get? b = some o := fun b o e => st2.keep b o (F1.keep b o e) (fun z => by have := Q1.ok.nw b z; rw [e] at this; cases this) fun z => by
    rw [List.mem_singleton.mp z] at e
    have h1 := Heap.lt_size e
    exact absurd (Nat.lt_of_lt_of_le h1 F1.above) (Nat.lt_irrefl _)
  refine ⟨⟨Q1.ok.B, Q1.ok.T, Q1.ok.Tb, Q1.ok.fr, Q1.ok.ff, Q1.ok.fk, Q1.ok.room, Q1.ok.units, ⟨m, ns2 m F1.ns, keep, F1.above⟩, fun a ha => ?_⟩, fun i x v e1 e2 => ?_, hr2, fun p hp => by rw [hcs] at hp; cases hp⟩
  · by_cases hm : a ∈ as1
    · exact Q1.ok.nw a hm
    · cases e : c.h₀.get? a with
      | none => rfl
      | some o => have := st2.new a ha hm; rw [F1.keep a o e] at this; cases this
  · obtain ⟨q1, u', q2, q3⟩ := Q1.lo i x v e1 e2
    refine ⟨q1, u', q2.step Q1.hr st2, .inl ?_⟩
    rcases q3 with ⟨a1, m', a2, a3⟩ | ⟨_, b, a2, _⟩
    · exact ⟨a1, m', by rw [fe.loc] at a2 ⊢; exact ns2 m' a2, a3⟩
    · rw [hcs] at a2; cases a2
theorem SX.retW {l r : Expr} {op : CmpOp} {f1 f2 : Lo → AH → Option (AV × AH)} {o : AV → AV → AH → Option AV} {p2 : Pos} (ho : OpOk g (compareOp op) o) (h1 : SEw g c env ns l f1) (h2 : SE g c env ns r f2) (hm : behindInMarks op r = false := by rfl) : SX g c env ns (.Return (some (.Compare l [op] [r] p2)) pos) (retD (opD o f1 f2)) := by
  intro as lo H s Q E fl lo' H' P q k
  obtain ⟨⟨v, H1⟩, e1, q⟩ := Option.map_eq_some_iff.mp q
  cases q
  unfold opD at e1
  obtain ⟨⟨x, H2⟩, e2, e⟩ := Option.bind_eq_some_iff.mp e1
  obtain ⟨⟨y, H3⟩, e3, e⟩ := Option.bind_eq_some_iff.mp e
  obtain ⟨z, e4, e⟩ := Option.map_eq_some_iff.mp e
  cases e
  refine wpAny_Return_some (wpAny_Compare1 (h1 as lo H s _ _ x H2 P e2 fun as1 a ha tk1 st1 P1 v1 => ?_) hm)
  refine h2 as1 lo H2 _ _ _ y _ P1 e3 fun as2 b hb tk2 P2 v2 => ?_
  have st1' : Stp (Us c env) as s.heap as1 ha := st1.weaken fun x hx => by rw [List.mem_singleton.mp hx]; exact .head _
  exact ho c.A as2 _ _ _ _ a b x y v (P1.step P2).ok.un P2.hr (v1.step P1.hr P2.st) v2 e4 fun u h' tk P3 v3 => k as2 (.ret u) h' tk ((st1'.trans P2.up).trans P3.up) ((P1.step P2).step P3) v3
end
theorem SE.sk {g : Gx} {c : Cx} {env : Env} {ns : List Str} {pos : Pos} {x : Str} {k : Nat} (hx : PyData.strOk x = true := by decide +kernel) : SE g c env ns (.Constant (.str x) k pos) (kD (.str x)) := SE.str hx
/-- more of the top's names -/
structure Gl2 (g : Gx) : Prop extends Gl g where
  type : GB g "type" (.type "type")
  issub : GB g "issubclass" (.builtin "issubclass")
  isi : GB g "isinstance" (.builtin "isinstance")
  str : GB g "str" (.type "str")
  bytes : GB g "bytes" (.type "bytes")
  min : GB g "min" (.builtin "min")
  max : GB g "max" (.builtin "max")
  sorted : GB g "sorted" (.builtin "sorted")
  err : specOf g.p "error_reply" = some ("Exception.__new__", errBm)

/-! fspath -/
noncomputable def fsP : { G : Den // ∀ (g : Gx) (gl : Gl2 g) (c : Cx) (a L : Addr) (cd : Value), FEnv c (envOf (dr 19).name (dr 19).scope L a cd) ["path", "kind"] → SS g c (envOf (dr 19).name (dr 19).scope L a cd) ["path", "kind"] (dr 19).body G } :=
  ⟨_, fun g gl c a L cd fe => SS.cons (SX.assign (i := 1) fe rfl (SE.typeOf gl.type fe.toEnvOk (SEs.cons (SE.name (i := 0) rfl) SEs.nil)))
    (SS.cons (SX.ite (ST.plain tr_ok (SE.issub gl.issub gl.str gl.bytes fe.toEnvOk (SE.name (i := 1) rfl))) (SS.cons (SX.ret (SE.name (i := 0) rfl)) SS.nil) SS.nil) SS.bad)⟩
theorem fs_cf {g : Gx} (gl : Gl2 g) : CF g (dr 19).name 1 false (bodyD 1 1 fsP.1) :=
  CF.of_body (ps := ["path"]) (ns := ["path", "kind"]) (gl.recs 19 (by decide)) (fun vs pm cd doc hv => by obtain ⟨_, rfl⟩ := len1 hv; rfl) (by decide) (by decide) (by decide) ⟨_, rfl⟩ rfl rfl rfl fun c a L cd _ _ fe => fsP.2 g gl c a L cd fe

theorem SX.tryNo {g : Gx} {c : Cx} {env : Env} {ns : List Str} {pos : Pos} {body : List Stmt} {h₀ : ExceptHandler} {hs : List ExceptHandler} {G : Den} (h1 : SS g c env ns body G) : SX g c env ns (.Try body (h₀ :: hs) [] [] pos) G := by
  intro as lo H s Q E fl lo' H' P q k
  refine wpAny_Try_except (h1 as lo H s _ _ fl lo' H' P q fun as1 f h' tk st P1 hf => ?_)
  have := k as1 f h' tk st P1 hf
  cases f <;> first | exact this | exact wpAny_execs_nil this

/-! _get_sep -/
noncomputable def gsP : { G : Den // ∀ (g : Gx) (gl : Gl2 g) (c : Cx) (a L : Addr) (cd : Value), FEnv c (envOf (dr 23).name (dr 23).scope L a cd) ["path"] → SS g c (envOf (dr 23).name (dr 23).scope L a cd) ["path"] (dr 23).body G } :=
  ⟨_, fun g gl c a L cd fe => SS.cons (SX.ite (ST.plain tr_ok (SE.builtin b_isi gl.isi fe.toEnvOk (SEs.cons (SE.name (i := 0) rfl) (SEs.cons (SE.type gl.bytes fe.toEnvOk) SEs.nil)))) SS.bad (SS.cons (SX.ret SE.sk) SS.nil)) SS.nil⟩
theorem gs_cf {g : Gx} (gl : Gl2 g) : CF g (dr 23).name 1 false (bodyD 1 0 gsP.1) :=
  CF.of_body (ps := ["path"]) (ns := ["path"]) (gl.recs 23 (by decide)) (fun vs pm cd doc hv => by obtain ⟨_, rfl⟩ := len1 hv; rfl) (by decide) (by decide) (by decide) ⟨_, rfl⟩ rfl rfl rfl fun c a L cd _ _ fe => gsP.2 g gl c a L cd fe

/-! join -/
abbrev jnN : List Str := ["a", "p", "sep", "path", "b"]
noncomputable def jnP : { G : Den // ∀ (g : Gx) (gl : Gl2 g) (c : Cx) (a L : Addr) (cd : Value), 1 ≤ c.lv → c.A.handled = none → FEnv c (envOf (dr 24).name (dr 24).scope L a cd) jnN → SS g c (envOf (dr 24).name (dr 24).scope L a cd) jnN (dr 24).body G } :=
  ⟨_, fun g gl c a L cd hl hh fe =>
    SS.cons (SX.assign (i := 0) fe rfl (SE.call (fs_cf gl) (gl.recs 19 (by decide)) rfl hl (fun h => nomatch h) fe.toEnvOk (SEs.cons (SE.name (i := 0) rfl) SEs.nil)))
    (SS.cons (SX.assign (i := 2) fe rfl (SE.call (gs_cf gl) (gl.recs 23 (by decide)) rfl hl (fun h => nomatch h) fe.toEnvOk (SEs.cons (SE.name (i := 0) rfl) SEs.nil)))
    (SS.cons (SX.assign (i := 3) fe rfl (SE.name (i := 0) rfl))
    (SS.cons (SX.tryNo (SS.cons (SX.for hh fe (Tgt.local (i := 4) fe rfl) (SIt.seq (SE.name (i := 1) rfl))
      (SS.cons (SX.assign (i := 4) fe rfl (SE.call (fs_cf gl) (gl.recs 19 (by decide)) rfl hl (fun h => nomatch h) fe.toEnvOk (SEs.cons (SE.name (i := 4) rfl) SEs.nil)))
      (SS.cons (SX.ite (ST.or (ST.plain tr_ok (SE.method g_start b_start (SE.name (i := 4) rfl) (SEs.cons (SE.name (i := 2) rfl) SEs.nil))) (ST.not (ST.plain tr_ok (SE.name (i := 3) rfl))))
        (SS.cons (SX.assign (i := 3) fe rfl (SE.name (i := 4) rfl)) SS.nil)
        (SS.cons (SX.ite (ST.plain tr_ok (SE.method g_end b_end (SE.name (i := 3) rfl) (SEs.cons (SE.name (i := 2) rfl) SEs.nil)))
          (SS.cons (SX.aug (i := 3) fe rfl op_icat (SE.name (i := 4) rfl)) SS.nil)
          (SS.cons (SX.aug (i := 3) fe rfl op_icat (SE.binop op_cat (SE.name (i := 2) rfl) (SE.name (i := 4) rfl))) SS.nil)) SS.nil)) SS.nil))) SS.nil))
    (SS.cons (SX.ret (SE.name (i := 3) rfl)) SS.nil))))⟩
theorem jn_cf {g : Gx} (gl : Gl2 g) : CF g (dr 24).name 2 true (bodyV 3 jnP.1) :=
  CF.of_bodyV (x1 := "a") (x2 := "p") (ns := ["sep", "path", "b"]) (gl.recs 24 (by decide)) (fun v1 v2 pm cd doc => rfl) (by decide) (by decide) (by decide) (by decide) rfl rfl rfl fun c a L cd hl hh fe => jnP.2 g gl c a L cd hl (hh rfl) fe
/-! splitroot -/
abbrev srN : List Str := ["p", "sep", "empty"]
noncomputable def srP : { G : Den // ∀ (g : Gx) (gl : Gl2 g) (c : Cx) (a L : Addr) (cd : Value), 1 ≤ c.lv → FEnv c (envOf (dr 25).name (dr 25).scope L a cd) srN → SS g c (envOf (dr 25).name (dr 25).scope L a cd) srN (dr 25).body G } :=
  ⟨_, fun g gl c a L cd hl fe =>
    SS.cons (SX.assign (i := 0) fe rfl (SE.call (fs_cf gl) (gl.recs 19 (by decide)) rfl hl (fun h => nomatch h) fe.toEnvOk (SEs.cons (SE.name (i := 0) rfl) SEs.nil)))
    (SS.cons (SX.ite (ST.plain tr_ok (SE.builtin b_isi gl.isi fe.toEnvOk (SEs.cons (SE.name (i := 0) rfl) (SEs.cons (SE.type gl.bytes fe.toEnvOk) SEs.nil)))) SS.bad
      (SS.cons (SX.assign (i := 1) fe rfl SE.sk) (SS.cons (SX.assign (i := 2) fe rfl SE.sk) SS.nil)))
    (SS.cons (SX.ite (ST.cmp op_ne (SE.slice (fi := none) (fj := some _) (SE.name (i := 0) rfl) trivial SE.int) (SE.name (i := 1) rfl))
      (SS.cons (SX.ret (SE.tuple (SEs.cons (SE.name (i := 2) rfl) (SEs.cons (SE.name (i := 2) rfl) (SEs.cons (SE.name (i := 0) rfl) SEs.nil))))) SS.nil)
      (SS.cons (SX.ite (ST.or (ST.cmp op_ne (SE.slice (fi := some _) (fj := some _) (SE.name (i := 0) rfl) SE.int SE.int) (SE.name (i := 1) rfl)) (ST.cmp op_eq (SE.slice (fi := some _) (fj := some _) (SE.name (i := 0) rfl) SE.int SE.int) (SE.name (i := 1) rfl)))
        (SS.cons (SX.ret (SE.tuple (SEs.cons (SE.name (i := 2) rfl) (SEs.cons (SE.name (i := 1) rfl) (SEs.cons (SE.slice (fi := some _) (fj := none) (SE.name (i := 0) rfl) SE.int trivial) SEs.nil))))) SS.nil)
        (SS.cons (SX.ret (SE.tuple (SEs.cons (SE.name (i := 2) rfl) (SEs.cons (SE.slice (fi := none) (fj := some _) (SE.name (i := 0) rfl) trivial SE.int) (SEs.cons (SE.slice (fi := some _) (fj := none) (SE.name (i := 0) rfl) SE.int trivial) SEs.nil))))) SS.nil)) SS.nil)) SS.nil))⟩
theorem sr_cf {g : Gx} (gl : Gl2 g) : CF g (dr 25).name 2 false (bodyD 1 2 srP.1) :=
  CF.of_body (ps := ["p"]) (ns := srN) (gl.recs 25 (by decide)) (fun vs pm cd doc hv => by obtain ⟨_, rfl⟩ := len1 hv; rfl) (by decide) (by decide) (by decide) ⟨_, rfl⟩ rfl rfl rfl fun c a L cd hl _ fe => srP.2 g gl c a L cd hl fe

/-! dirname -/
abbrev dnmN : List Str := ["p", "sep", "i", "head"]
noncomputable def dnmP : { G : Den // ∀ (g : Gx) (gl : Gl2 g) (c : Cx) (a L : Addr) (cd : Value), 1 ≤ c.lv → FEnv c (envOf (dr 26).name (dr 26).scope L a cd) dnmN → SS g c (envOf (dr 26).name (dr 26).scope L a cd) dnmN (dr 26).body G } :=
  ⟨_, fun g gl c a L cd hl fe =>
    SS.cons (SX.assign (i := 0) fe rfl (SE.call (fs_cf gl) (gl.recs 19 (by decide)) rfl hl (fun h => nomatch h) fe.toEnvOk (SEs.cons (SE.name (i := 0) rfl) SEs.nil)))
    (SS.cons (SX.assign (i := 1) fe rfl (SE.call (gs_cf gl) (gl.recs 23 (by decide)) rfl hl (fun h => nomatch h) fe.toEnvOk (SEs.cons (SE.name (i := 0) rfl) SEs.nil)))
    (SS.cons (SX.assign (i := 2) fe rfl (SE.binop op_add (SE.method g_rfind b_rfind (SE.name (i := 0) rfl) (SEs.cons (SE.name (i := 1) rfl) SEs.nil)) SE.int))
    (SS.cons (SX.assign (i := 3) fe rfl (SE.slice (fi := none) (fj := some _) (SE.name (i := 0) rfl) trivial (SE.name (i := 2) rfl)))
    (SS.cons (SX.ite (ST.and (ST.plain tr_ok (SE.name (i := 3) rfl)) (ST.cmp op_ne (SE.name (i := 3) rfl) (SE.binop op_smul (SE.name (i := 1) rfl) (SE.builtin b_len gl.len fe.toEnvOk (SEs.cons (SE.name (i := 3) rfl) SEs.nil)))))
      (SS.cons (SX.assign (i := 3) fe rfl (SE.method g_rstrip b_rstrip (SE.name (i := 3) rfl) (SEs.cons (SE.name (i := 1) rfl) SEs.nil))) SS.nil) SS.nil)
    (SS.cons (SX.ret (SE.name (i := 3) rfl)) SS.nil)))))⟩
theorem dnm_cf {g : Gx} (gl : Gl2 g) : CF g (dr 26).name 2 false (bodyD 1 3 dnmP.1) :=
  CF.of_body (ps := ["p"]) (ns := dnmN) (gl.recs 26 (by decide)) (fun vs pm cd doc hv => by obtain ⟨_, rfl⟩ := len1 hv; rfl) (by decide) (by decide) (by decide) ⟨_, rfl⟩ rfl rfl rfl fun c a L cd hl _ fe => dnmP.2 g gl c a L cd hl fe

/-! normpath -/
abbrev npN : List Str := ["path", "sep", "dot", "dotdot", "_", "initial_slashes", "comps", "new_comps", "comp"]
noncomputable def npP : { G : Den // ∀ (g : Gx) (gl : Gl2 g) (c : Cx) (a L : Addr) (cd : Value), 2 ≤ c.lv → c.A.handled = none → FEnv c (envOf (dr 27).name (dr 27).scope L a cd) npN → SS g c (envOf (dr 27).name (dr 27).scope L a cd) npN (dr 27).body G } :=
  ⟨_, fun g gl c a L cd hl hh fe =>
    SS.cons (SX.assign (i := 0) fe rfl (SE.call (fs_cf gl) (gl.recs 19 (by decide)) rfl (Nat.le_of_succ_le hl) (fun h => nomatch h) fe.toEnvOk (SEs.cons (SE.name (i := 0) rfl) SEs.nil)))
    (SS.cons (SX.ite (ST.plain tr_ok (SE.builtin b_isi gl.isi fe.toEnvOk (SEs.cons (SE.name (i := 0) rfl) (SEs.cons (SE.type gl.bytes fe.toEnvOk) SEs.nil)))) SS.bad
      (SS.cons (SX.assign (i := 1) fe rfl SE.sk) (SS.cons (SX.assign (i := 2) fe rfl SE.sk) (SS.cons (SX.assign (i := 3) fe rfl SE.sk) SS.nil))))
    (SS.cons (SX.ite (ST.not (ST.plain tr_ok (SE.name (i := 0) rfl))) (SS.cons (SX.ret (SE.name (i := 2) rfl)) SS.nil) SS.nil)
    (SS.cons (SX.unpack hh (TG.tuple (is := [4, 5, 0]) (fun _ _ _ _ => trivial) ⟨⟨_, _, rfl, Sto.local fe rfl⟩, ⟨_, _, rfl, Sto.local fe rfl⟩, ⟨_, _, rfl, Sto.local fe rfl⟩, trivial⟩) (SE.call (sr_cf gl) (gl.recs 25 (by decide)) rfl hl (fun h => nomatch h) fe.toEnvOk (SEs.cons (SE.name (i := 0) rfl) SEs.nil)))
    (SS.cons (SX.assign (i := 6) fe rfl (SE.method g_split b_split (SE.name (i := 0) rfl) (SEs.cons (SE.name (i := 1) rfl) SEs.nil)))
    (SS.cons (SX.assign (i := 7) fe rfl (SE.listT SEs.nil))
    (SS.cons (SX.for hh fe (Tgt.local (i := 8) fe rfl) (SIt.seq (SE.name (i := 6) rfl))
      (SS.cons (SX.ite (ST.or (ST.not (ST.plain tr_ok (SE.name (i := 8) rfl))) (ST.cmp op_eq (SE.name (i := 8) rfl) (SE.name (i := 2) rfl))) (SS.cons SX.cont SS.nil) SS.nil)
      (SS.cons (SX.ite (ST.orN (fs := [_, _, _]) ⟨ST.cmp op_ne (SE.name (i := 8) rfl) (SE.name (i := 3) rfl), ST.and (ST.not (ST.plain tr_ok (SE.name (i := 5) rfl))) (ST.not (ST.plain tr_ok (SE.name (i := 7) rfl))), ST.and (ST.plain tr_ok (SE.name (i := 7) rfl)) (ST.cmp op_eq (SE.item (SE.name (i := 7) rfl) (unary_neg SE.int)) (SE.name (i := 3) rfl)), trivial⟩)
        (SS.cons (SX.expr (SE.method g_append b_append (SE.name (i := 7) rfl) (SEs.cons (SE.name (i := 8) rfl) SEs.nil))) SS.nil)
        (SS.cons (SX.ite (ST.plain tr_ok (SE.name (i := 7) rfl)) (SS.cons (SX.expr (SE.method0 g_pop b_pop (SE.name (i := 7) rfl))) SS.nil) SS.nil) SS.nil)) SS.nil)))
    (SS.cons (SX.assign (i := 6) fe rfl (SE.name (i := 7) rfl))
    (SS.cons (SX.assign (i := 0) fe rfl (SE.binop op_cat (SE.name (i := 5) rfl) (SE.method g_join b_join (SE.name (i := 1) rfl) (SEs.cons (SE.name (i := 6) rfl) SEs.nil))))
    (SS.cons (SX.ret (SE.orV tr_ok (SE.name (i := 0) rfl) (SE.name (i := 2) rfl))) SS.nil)))))))))⟩
theorem np_cf {g : Gx} (gl : Gl2 g) : CF g (dr 27).name 3 true (bodyD 1 8 npP.1) :=
  CF.of_body (ps := ["path"]) (ns := npN) (gl.recs 27 (by decide)) (fun vs pm cd doc hv => by obtain ⟨_, rfl⟩ := len1 hv; rfl) (by decide) (by decide) (by decide) ⟨_, rfl⟩ rfl rfl rfl fun c a L cd hl hh fe => npP.2 g gl c a L cd hl (hh rfl) fe
/-! parse257 -/
abbrev paN : List Str := ["resp", "dirname", "i", "n", "c"]
noncomputable def paT : { t : Lo → AH → Option (Bool × AH) // ∀ (g : Gx) (c : Cx) (a L : Addr) (cd : Value), FEnv c (envOf (dr 10).name (dr 10).scope L a cd) paN → ST g c (envOf (dr 10).name (dr 10).scope L a cd) paN (match (dr 10).body with | .If t _ _ _ :: _ => t | _ => .Constant .none 0 default) t } :=
  ⟨_, fun g c a L cd fe => ST.cmp op_ne (SE.slice (fi := none) (fj := some _) (SE.name (i := 0) rfl) trivial SE.int) SE.sk⟩
noncomputable def paP : { G : Den // ∀ (g : Gx) (gl : Gl2 g) (c : Cx) (a L : Addr) (cd : Value), FEnv c (envOf (dr 10).name (dr 10).scope L a cd) paN → SS g c (envOf (dr 10).name (dr 10).scope L a cd) paN (dr 10).body G } :=
  ⟨_, fun g gl c a L cd fe =>
    SS.cons (SX.ite (paT.2 g c a L cd fe) SS.bad SS.nil)
    (SS.cons (SX.ite (ST.cmp op_ne (SE.slice (fi := some _) (fj := some _) (SE.name (i := 0) rfl) SE.int SE.int) SE.sk) (SS.cons (SX.ret SE.sk) SS.nil) SS.nil)
    (SS.cons (SX.assign (i := 1) fe rfl SE.sk)
    (SS.cons (SX.assign (i := 2) fe rfl SE.int)
    (SS.cons (SX.assign (i := 3) fe rfl (SE.builtin b_len gl.len fe.toEnvOk (SEs.cons (SE.name (i := 0) rfl) SEs.nil)))
    (SS.cons (SX.while 200 (ST.cmp op_lt (SE.name (i := 2) rfl) (SE.name (i := 3) rfl))
      (SS.cons (SX.assign (i := 4) fe rfl (SE.item (SE.name (i := 0) rfl) (SE.name (i := 2) rfl)))
      (SS.cons (SX.assign (i := 2) fe rfl (SE.binop op_add (SE.name (i := 2) rfl) SE.int))
      (SS.cons (SX.ite (ST.cmp op_eq (SE.name (i := 4) rfl) SE.sk)
        (SS.cons (SX.ite (ST.or (ST.cmp op_ge (SE.name (i := 2) rfl) (SE.name (i := 3) rfl)) (ST.cmp op_ne (SE.item (SE.name (i := 0) rfl) (SE.name (i := 2) rfl)) SE.sk)) (SS.cons SX.brk SS.nil) SS.nil)
        (SS.cons (SX.assign (i := 2) fe rfl (SE.binop op_add (SE.name (i := 2) rfl) SE.int)) SS.nil)) SS.nil)
      (SS.cons (SX.assign (i := 1) fe rfl (SE.binop op_cat (SE.name (i := 1) rfl) (SE.name (i := 4) rfl))) SS.nil)))))
    (SS.cons (SX.ret (SE.name (i := 1) rfl)) SS.nil))))))⟩
theorem pa_cf {g : Gx} (gl : Gl2 g) : CF g (dr 10).name 1 false (bodyD 1 4 paP.1) :=
  CF.of_body (ps := ["resp"]) (ns := paN) (gl.recs 10 (by decide)) (fun vs pm cd doc hv => by obtain ⟨_, rfl⟩ := len1 hv; rfl) (by decide) (by decide) (by decide) ⟨_, rfl⟩ rfl rfl rfl fun c a L cd hl _ fe => paP.2 g gl c a L cd fe
theorem pa_cr {g : Gx} (gl : Gl2 g) : CFr g (dr 10).name 1 (raiseB 1 4 paT.1 (ldD 0)) :=
  CFr.of_body (ps := ["resp"]) (ns := paN) (gl.recs 10 (by decide)) (fun vs pm cd doc hv => by obtain ⟨_, rfl⟩ := len1 hv; rfl) (by decide) (by decide) (by decide) ⟨_, rfl⟩ rfl rfl rfl gl.err rfl rfl (fun _ _ _ => rfl) fun c a L cd hl fe => ⟨paT.2 g c a L cd fe, SE.name (i := 0) rfl⟩

/-! _law_answer -/
abbrev laN : List Str := ["path", "made", "quoted"]
noncomputable def laP : { G : Den // ∀ (g : Gx) (gl : Gl2 g) (c : Cx) (a L : Addr) (cd : Value), 2 ≤ c.lv → FEnv c (envOf (dr 30).name (dr 30).scope L a cd) laN → SSt g c (envOf (dr 30).name (dr 30).scope L a cd) laN (dr 30).body G } :=
  ⟨_, fun g gl c a L cd hl fe =>
    SSt.replace (i := 2) (j := 0) fe rfl rfl rfl
      (SS.cons (SX.ite (ST.or (ST.cmp op_eq (SE.call (dnm_cf gl) (gl.recs 26 (by decide)) rfl hl (fun h => nomatch h) fe.toEnvOk (SEs.cons (SE.name (i := 0) rfl) SEs.nil)) SE.sk)
          (ST.cmp op_in (SE.call (dnm_cf gl) (gl.recs 26 (by decide)) rfl hl (fun h => nomatch h) fe.toEnvOk (SEs.cons (SE.name (i := 0) rfl) SEs.nil)) (SE.name (i := 1) rfl)))
        (SS.cons (SX.ret (SE.binop op_cat (SE.binop op_cat SE.sk (SE.name (i := 2) rfl)) SE.sk)) SS.nil) SS.nil)
      (SS.cons (SX.ret (SE.binop op_cat (SE.binop op_cat SE.sk (SE.name (i := 2) rfl)) SE.sk)) SS.nil)) (by decide) (pl := _)⟩
theorem la_cf {g : Gx} (gl : Gl2 g) : CF g (dr 30).name 3 false (bodyD 2 1 laP.1) :=
  CF.of_bodyT (ps := ["path", "made"]) (ns := laN) (gl.recs 30 (by decide)) (fun vs pm cd doc hv => by obtain ⟨_, _, rfl⟩ := len2 hv; rfl) (by decide) (by decide) (by decide) ⟨_, rfl⟩ rfl rfl rfl (by decide) fun c a L cd hl _ fe => laP.2 g gl c a L cd hl fe

/-! _law_names -/
abbrev lnN : List Str := ["word", "names", "part"]
noncomputable def lnP : { G : Den // ∀ (g : Gx) (gl : Gl2 g) (c : Cx) (a L : Addr) (cd : Value), c.A.handled = none → FEnv c (envOf (dr 32).name (dr 32).scope L a cd) lnN → SS g c (envOf (dr 32).name (dr 32).scope L a cd) lnN (dr 32).body G } :=
  ⟨_, fun g gl c a L cd hh fe =>
    SS.cons (SX.assign (i := 1) fe rfl (SE.list SEs.nil))
    (SS.cons (SX.for hh fe (Tgt.local (i := 2) fe rfl) (SIt.seq (SE.method g_split b_split (SE.name (i := 0) rfl) (SEs.cons SE.sk SEs.nil)))
      (SS.cons (SX.ite (ST.cmp op_eq (SE.name (i := 2) rfl) SE.sk)
        (SS.cons (SX.assign (i := 1) fe rfl (SE.slice (fi := none) (fj := some _) (SE.name (i := 1) rfl) trivial (unary_neg SE.int))) SS.nil)
        (SS.cons (SX.ite (ST.and (ST.cmp op_ne (SE.name (i := 2) rfl) SE.sk) (ST.cmp op_ne (SE.name (i := 2) rfl) SE.sk))
          (SS.cons (SX.assign (i := 1) fe rfl (SE.binop op_lcat (SE.name (i := 1) rfl) (SE.list (SEs.cons (SE.name (i := 2) rfl) SEs.nil)))) SS.nil) SS.nil) SS.nil)) SS.nil))
    (SS.cons (SX.ret (SE.name (i := 1) rfl)) SS.nil))⟩
theorem ln_cf {g : Gx} (gl : Gl2 g) : CF g (dr 32).name 1 true (bodyD 1 2 lnP.1) :=
  CF.of_body (ps := ["word"]) (ns := lnN) (gl.recs 32 (by decide)) (fun vs pm cd doc hv => by obtain ⟨_, rfl⟩ := len1 hv; rfl) (by decide) (by decide) (by decide) ⟨_, rfl⟩ rfl rfl rfl fun c a L cd hl hh fe => lnP.2 g gl c a L cd (hh rfl) fe
/-! _law_jobs -/
abbrev ljN : List Str := ["numbers", "words"]
noncomputable def ljP : { G : Den // ∀ (g : Gx) (gl : Gl2 g) (c : Cx) (a L : Addr) (cd : Value), c.A.handled = none → FEnv c (envOfC (dr 29).name (dr 29).scope L a cd) ljN → SS g c (envOfC (dr 29).name (dr 29).scope L a cd) ljN (dr 29).body G } :=
  ⟨_, fun g gl c a L cd hh fe =>
    SS.cons (SX.assignC (i := 1) (ca := L + 1) fe rfl rfl (SE.list (SEs.cons SE.sk (SEs.cons SE.sk (SEs.cons SE.sk (SEs.cons SE.sk (SEs.cons SE.sk (SEs.cons SE.sk (SEs.cons SE.sk SEs.nil)))))))))
    (SS.cons (SX.ret (SE.comp (ns' := ["words", "x"]) (js := [1]) (cl := [("words", L + 1)]) 1
      { hcell := by decide, hkind := rfl, hcl := fun p hp => hp, hclos := rfl, hnames := by decide, nd := by decide,
        cap := fun C p j hp => match p, hp with | 0, hp => by cases hp; exact ⟨"words", L + 1, rfl, rfl, rfl, rfl, rfl, rfl⟩,
        parts := fun C ce => ⟨TG.name (i := 1) (Sto.comp ce rfl), CTs.nil,
          SE.tuple (SEs.cons (SE.item (SE.name (i := 0) rfl) (SE.binop op_mod (SE.name (i := 1) rfl) SE.int))
            (SEs.cons (SE.binop op_mod (SE.binop op_fdiv (SE.name (i := 1) rfl) SE.int) SE.int)
            (SEs.cons (SE.binop op_add (SE.binop op_mod (SE.binop op_fdiv (SE.name (i := 1) rfl) SE.int) SE.int) SE.int) SEs.nil)))⟩ }
      fe hh (SIt.seq (SE.name (i := 0) rfl)))) SS.nil)⟩
theorem lj_cells (q : Nat) : cellsFrom q (dr 29).scope.names [] = ([(("words" : Str), q)] : List (Str × Addr)) := rfl
theorem lj_cf {g : Gx} (gl : Gl2 g) : CF g (dr 29).name 1 true (bodyD 1 1 ljP.1) :=
  CF.of_bodyC (ps := ["numbers"]) (ns := ljN) (gl.recs 29 (by decide)) (fun vs pm cd doc hv => by obtain ⟨_, rfl⟩ := len1 hv; rfl) (fun y hy q => by rw [List.mem_singleton.mp hy]; exact .inl rfl) (by decide) ⟨_, rfl⟩ (fun q => by rw [lj_cells]; simp) rfl rfl rfl
    (fun q p hp => by rw [lj_cells] at hp ⊢; rw [List.mem_singleton.mp hp]; rfl) fun c a L cd hl hh fe => ljP.2 g gl c a L cd (hh rfl) fe
/-! _law_work -/
abbrev lwN : List Str := ["jobs", "k", "heap", "paths", "made", "log", "hour", "told"]
noncomputable def lwP : { G : Den // ∀ (g : Gx) (gl : Gl2 g) (c : Cx) (a L : Addr) (cd : Value) (eo : Env) (Lz : Addr), 3 ≤ c.lv → c.A.handled = none → FEnv c (envOfC (dr 31).name (dr 31).scope L a cd) lwN → Out1 c eo Lz → SSw g c Lz (envOfC (dr 31).name (dr 31).scope L a cd) lwN (dr 31).body G } :=
  ⟨_, fun g gl c a L cd eo Lz hl hh fe o =>
    SSw.cons (SX.toW o (SX.assignComp (i := 2) (ns' := ["jobs", "k"]) (js := [0]) (cl := [("jobs", L + 1)]) 1
      { hcell := by decide, hkind := rfl, hcl := fun p hp => hp, hclos := rfl, hnames := by decide, nd := by decide,
        cap := fun C p j hp => match p, hp with | 0, hp => by cases hp; exact ⟨"jobs", L + 1, rfl, rfl, rfl, rfl, rfl, rfl⟩,
        parts := fun C ce => ⟨TG.name (i := 1) (Sto.comp ce rfl), CTs.nil,
          SE.tuple (SEs.cons (SE.item (SE.item (SE.name (i := 0) rfl) (SE.name (i := 1) rfl)) SE.int) (SEs.cons (SE.name (i := 1) rfl) SEs.nil))⟩ }
      fe hh (SIt.range gl.range fe.toEnvOk (SEs.cons (SE.binop op_sub (SE.builtin b_len gl.len fe.toEnvOk (SEs.cons (SE.name (i := 0) rfl) SEs.nil)) SE.int) (SEs.cons (unary_neg SE.int) (SEs.cons (unary_neg SE.int) SEs.nil)))) rfl)) fun z1 =>
    SSw.cons (SX.toW ⟨o.out, o.fr⟩ (SX.expr (SE.call (hf_cf gl.toGl) (gl.recs 4 (by decide)) rfl hl (fun _ => hh) fe.toEnvOk (SEs.cons (SE.name (i := 2) rfl) SEs.nil)))) fun z2 =>
    SSw.cons (SX.toW ⟨o.out, o.fr⟩ (SX.assignComp (i := 3) (ns' := ["job"]) (js := []) (cl := []) 1
      { hcell := by decide, hkind := rfl, hcl := fun p hp => (nomatch hp), hclos := rfl, hnames := by decide, nd := by decide,
        cap := fun C p j hp => (nomatch hp),
        parts := fun C ce => ⟨TG.name (i := 0) (Sto.comp ce rfl), CTs.nil,
          SE.call (np_cf gl) (gl.recs 27 (by decide)) rfl hl (fun _ => hh) ce.toEnvOk (SEs.cons (SE.call (jn_cf gl) (gl.recs 24 (by decide)) rfl (Nat.le_of_succ_le hl) (fun _ => hh) ce.toEnvOk (SEs.cons SE.sk (SEs.cons (SE.item (SE.name (i := 0) rfl) SE.int) SEs.nil))) SEs.nil)⟩ }
      ⟨fe.toEnvOk, fe.loc, fe.own, fe.nd, fe.cnd⟩ hh (SIt.seq (SE.name (i := 0) rfl)) rfl)) fun z3 =>
    SSw.cons (SX.toW ⟨o.out, o.fr⟩ (SX.assign (i := 4) ⟨fe.toEnvOk, fe.loc, fe.own, fe.nd, fe.cnd⟩ rfl (SE.listT SEs.nil))) fun z4 =>
    SSw.cons (SX.toW ⟨o.out, o.fr⟩ (SX.assign (i := 5) ⟨fe.toEnvOk, fe.loc, fe.own, fe.nd, fe.cnd⟩ rfl (SE.listT SEs.nil))) fun z5 =>
    SSw.cons (SXw.while 200 ⟨o.out, o.fr⟩ (fun z6 => ST.cmp op_ne (SE.name (i := 2) rfl) (SE.list SEs.nil)) fun z6 =>
      SSw.cons (SX.toW ⟨o.out, o.fr⟩ (SX.unpack hh (TG.tuple (is := [6, 1]) (fun _ _ _ _ => trivial) ⟨⟨_, _, rfl, Sto.local ⟨fe.toEnvOk, fe.loc, fe.own, fe.nd, fe.cnd⟩ rfl⟩, ⟨_, _, rfl, Sto.local ⟨fe.toEnvOk, fe.loc, fe.own, fe.nd, fe.cnd⟩ rfl⟩, trivial⟩) (SE.item (SE.name (i := 2) rfl) SE.int))) fun z7 =>
      SSw.cons (SXw.ite ⟨o.out, o.fr⟩ (ST.cmp op_gt (SE.name (i := 6) rfl) SE.int)
        (SS.toW ⟨o.out, o.fr⟩ (SS.cons (SX.expr (SE.method g_append b_append (SE.name (i := 5) rfl) (SEs.cons
          (SE.ifExp (ST.cmp op_eq (SE.call (hp_cf gl.toGl) (gl.recs 2 (by decide)) rfl hl (fun h => nomatch h) fe.toEnvOk (SEs.cons (SE.name (i := 2) rfl) SEs.nil)) (SE.tuple (SEs.cons (SE.name (i := 6) rfl) (SEs.cons (SE.name (i := 1) rfl) SEs.nil))))
            (SE.tuple (SEs.cons (SE.name (i := 6) rfl) (SEs.cons (SE.name (i := 1) rfl) (SEs.cons SE.sk SEs.nil))))
            (SE.tuple (SEs.cons (SE.name (i := 6) rfl) (SEs.cons (SE.name (i := 1) rfl) (SEs.cons SE.sk SEs.nil))))) SEs.nil))) SS.nil))
        (SSw.cons (SXw.try (i := 7) ⟨o.out, o.fr⟩ ⟨fe.toEnvOk, fe.loc, fe.own, fe.nd, fe.cnd⟩ rfl hh (pa_cf gl) (pa_cr gl) (gl.recs 10 (by decide)) rfl (Nat.le_trans (by decide) hl) (Nat.le_trans (by decide) hl) gl.err
          (SEs.cons (SE.call (la_cf gl) (gl.recs 30 (by decide)) rfl hl (fun h => nomatch h) fe.toEnvOk (SEs.cons (SE.item (SE.name (i := 3) rfl) (SE.name (i := 1) rfl)) (SEs.cons (SE.name (i := 4) rfl) SEs.nil))) SEs.nil)
          (SS.cons (SX.expr (SE.method g_append b_append (SE.name (i := 4) rfl) (SEs.cons (SE.name (i := 7) rfl) SEs.nil)))
          (SS.cons (SX.expr (SE.method g_append b_append (SE.name (i := 5) rfl) (SEs.cons
            (SE.ifExp (ST.cmp op_eq (SE.call (hp_cf gl.toGl) (gl.recs 2 (by decide)) rfl hl (fun h => nomatch h) fe.toEnvOk (SEs.cons (SE.name (i := 2) rfl) SEs.nil)) (SE.tuple (SEs.cons (SE.name (i := 6) rfl) (SEs.cons (SE.name (i := 1) rfl) SEs.nil))))
              (SE.tuple (SEs.cons (SE.name (i := 6) rfl) (SEs.cons (SE.name (i := 1) rfl) (SEs.cons (SE.name (i := 7) rfl) SEs.nil))))
              (SE.tuple (SEs.cons (SE.name (i := 6) rfl) (SEs.cons (SE.name (i := 1) rfl) (SEs.cons SE.sk SEs.nil))))) SEs.nil))) SS.nil))
          (fun z8 ev => SS.cons (SX.ite (ST.cmp op_ne
              (SE.call (hr_cf gl.toGl) (gl.recs 3 (by decide)) rfl hl (fun h => nomatch h) fe.toEnvOk (SEs.cons (SE.name (i := 2) rfl) (SEs.cons (SE.tuple (SEs.cons (SE.binop op_add (SE.name (i := 6) rfl) (SE.item (SE.item (SE.name (i := 0) rfl) (SE.name (i := 1) rfl)) SE.int)) (SEs.cons (SE.name (i := 1) rfl) SEs.nil))) SEs.nil)))
              (SE.tuple (SEs.cons (SE.name (i := 6) rfl) (SEs.cons (SE.name (i := 1) rfl) SEs.nil))))
            (SS.cons (SX.expr (SE.method g_append b_append (SE.name (i := 5) rfl) (SEs.cons (SE.tuple (SEs.cons (SE.name (i := 6) rfl) (SEs.cons (SE.name (i := 1) rfl) (SEs.cons SE.sk SEs.nil)))) SEs.nil))) SS.nil) SS.nil) SS.nil))
          fun z9 => SS.toW ⟨o.out, o.fr⟩ SS.nil)) fun z10 => SS.toW ⟨o.out, o.fr⟩ SS.nil) fun z11 =>
    SS.toW ⟨o.out, o.fr⟩ (SS.cons (SX.ret (SE.name (i := 5) rfl)) SS.nil)⟩
theorem lw_cells (q : Nat) : cellsFrom q (dr 31).scope.names [] = ([(("jobs" : Str), q)] : List (Str × Addr)) := rfl
theorem lw_cf {g : Gx} (gl : Gl2 g) : CFw g (dr 31).name 4 (bodyD 1 7 lwP.1) :=
  CFw.of_bodyC (ps := ["jobs"]) (ns := lwN) (gl.recs 31 (by decide)) (fun vs pm cd doc hv => by obtain ⟨_, rfl⟩ := len1 hv; rfl) (fun y hy q => by rw [List.mem_singleton.mp hy]; exact .inr ⟨rfl, rfl⟩) (by decide) ⟨_, rfl⟩ (fun q => by rw [lw_cells]; simp) rfl rfl rfl
    (fun q p hp => by rw [lw_cells] at hp ⊢; rw [List.mem_singleton.mp hp]; rfl) fun c a L cd eo Lz hl hh fe o => lwP.2 g gl c a L cd eo Lz hl hh fe o
/-! the order of pairs, and lists whose pairs differ -/
noncomputable def pOrd : KeyOrd where
  α := Int × Int
  blt a b := decide (a.1 < b.1 ∨ (a.1 = b.1 ∧ a.2 < b.2))
  irrefl a := by simp
  trans a b c h1 h2 := by simp only [decide_eq_true_eq] at *; omega
  negTrans a b c h := by simp only [decide_eq_true_eq] at *; omega
  total a b h1 h2 := by
    simp only [decide_eq_false_iff_not] at h1 h2
    exact Prod.ext (by omega) (by omega)

structure SB (a₀ : Array Keyed) (st : SortSt) : Prop where
  perm : (arrOf st).Perm a₀
  kind : kindOf st = tuples' true
  failed : failedOf st = none
  pend : pendingOf st = #[]
theorem SB.size {a₀ : Array Keyed} {st : SortSt} (h : SB a₀ st) : (arrOf st).size = a₀.size := h.perm.size_eq
theorem SB.arr {a₀ : Array Keyed} {st : SortSt} (h : SB a₀ st) {xs : Array Keyed} (hp : xs.Perm (arrOf st)) : SB a₀ (setArr st xs) := ⟨hp.trans h.perm, h.kind, h.failed, h.pend⟩

section
variable {prog : Program} {w : World} {A : Around} {E : Value → Shared → Prop} {s : Shared} {a₀ : Array Keyed} {κ : KeyKind}

/-- places are compared, and no two are alike -/
structure Cmp (prog : Program) (w : World) (A : Around) (E : Value → Shared → Prop) (s : Shared) (κ : KeyKind) (a₀ : Array Keyed) : Prop where
  lt : ∀ (i j : Nat) (st : SortSt) (Q : Option Bool → SortSt → Prop), i < a₀.size → j < a₀.size → i ≠ j → SB a₀ st → Q (some (κ.blt (KK κ (arrOf st) i) (KK κ (arrOf st) j))) st → wpS (model prog w) A E s (ltAt' i j) Q st
  ne : ∀ (i j : Nat) (st : SortSt), i < j → j < a₀.size → SB a₀ st → KK κ (arrOf st) i ≠ KK κ (arrOf st) j

theorem s_asc {st : SortSt} {a n : Nat} {Q : AscSt → SortSt → Prop} (C : Cmp prog w A E s κ a₀) (hn : n ≤ a₀.size) (h1 : 1 ≤ a) (ha : a ≤ n) (hB : SB a₀ st) (hs : SortedToK κ (arrOf st) a)
    (k : ∀ m, a ≤ m → m ≤ n → SortedToK κ (arrOf st) m → (m = n ∨ κ.klt (KK κ (arrOf st) m) (KK κ (arrOf st) (m - 1))) → Q (none, m) st) : wpS (model prog w) A E s (ascLoop a n) Q st := by
  refine wpS_forRange (I := fun x c st' => st' = st ∧ c = (none, x) ∧ SortedToK κ (arrOf st) x) (fun x c st' h2 h3 hI => ?_) (fun c st' hI => ?_) ⟨rfl, rfl, hs⟩
  · obtain ⟨rfl, rfl, hx⟩ := hI
    refine wpS_bind (C.lt _ _ _ _ (by omega) (by omega) (by omega) hB ?_)
    cases hb : κ.blt (KK κ (arrOf st') x) (KK κ (arrOf st') (x - 1)) with
    | true => exact wpS_pure (k x h2 (by omega) hx (.inr hb))
    | false =>
      refine wpS_pure ⟨rfl, rfl, fun i j hij hj => ?_⟩
      by_cases hjx : j < x
      · exact hx i j hij hjx
      · obtain rfl : j = x := by omega
        by_cases hi : i = j
        · subst hi; exact KeyOrd.kle_refl _
        · exact KeyOrd.kle_trans (hx i (j - 1) (by omega) (by omega)) hb
  · obtain ⟨rfl, rfl, hx⟩ := hI
    rw [show max a n = n by omega] at hx ⊢
    exact k n ha (Nat.le_refl _) hx (.inl rfl)

theorem s_tail {st : SortSt} {m n : Nat} {Q : Option Nat → SortSt → Prop} (C : Cmp prog w A E s κ a₀) (hn : n ≤ a₀.size) (h1 : 1 ≤ m) (hm : m ≤ n) (hB : SB a₀ st) (hs : NonIncK κ (arrOf st) m)
    (k : ∀ q st', SB a₀ st' → 1 ≤ q → q ≤ n → SortedToK κ (arrOf st') q → Q (some q) st') : wpS (model prog w) A E s (tail3 m n) Q st := by
  have hsz : m ≤ (arrOf st).size := by rw [hB.size]; omega
  have hB' : SB a₀ (setArr st (mirror (arrOf st) 0 m ((m - 0) / 2))) := hB.arr (mirror_perm _ _ _ _)
  refine wpS_bind (wpS_reverse (wpS_bind (s_asc C hn h1 hm hB' (fun i j hij hj => ?_) fun q h2 h3 hq _ => wpS_pure (k q _ hB' (by omega) h3 hq))))
  show κ.kle (KK κ (mirror (arrOf st) 0 m ((m - 0) / 2)) i) (KK κ (mirror (arrOf st) 0 m ((m - 0) / 2)) j)
  rw [KK_mirror hsz, KK_mirror hsz, if_pos (by omega), if_pos (by omega)]
  exact hs _ _ (by omega) (by omega)

theorem s_desc {st : SortSt} {n : Nat} {Q : DescSt → SortSt → Prop} (C : Cmp prog w A E s κ a₀) (hn : n ≤ a₀.size) (h2 : 2 ≤ n) (hB : SB a₀ st) (hs : NonIncK κ (arrOf st) 2)
    (k : ∀ m, 2 ≤ m → m ≤ n → NonIncK κ (arrOf st) m → Q (none, m, 0) st) : wpS (model prog w) A E s (descLoop 2 n) Q st := by
  refine wpS_forRange (I := fun x c st' => st' = st ∧ c = (none, x, 0) ∧ NonIncK κ (arrOf st) x) (fun x c st' h3 h4 hI => ?_) (fun c st' hI => ?_) ⟨rfl, rfl, hs⟩
  · obtain ⟨rfl, rfl, hx⟩ := hI
    dsimp only
    refine wpS_bind (C.lt _ _ _ _ (by omega) (by omega) (by omega) hB ?_)
    cases hb : κ.blt (KK κ (arrOf st') x) (KK κ (arrOf st') (x - 1)) with
    | true =>
      refine wpS_pure ⟨rfl, rfl, fun i j hij hj => ?_⟩
      by_cases hjx : j < x
      · exact hx i j hij hjx
      · obtain rfl : j = x := by omega
        by_cases hi : i = j
        · subst hi; exact KeyOrd.kle_refl _
        · exact KeyOrd.kle_trans (KeyOrd.kle_of_klt hb) (hx i (j - 1) (by omega) (by omega))
    | false =>
      dsimp only
      refine wpS_bind (C.lt _ _ _ _ (by omega) (by omega) (by omega) hB ?_)
      cases hc : κ.blt (KK κ (arrOf st') (x - 1)) (KK κ (arrOf st') x) with
      | true => exact wpS_pure (k x h3 (by omega) hx)
      | false => exact absurd (κ.total _ _ hc hb) (C.ne (x - 1) x st' (by omega) (by omega) hB)
  · obtain ⟨rfl, rfl, hx⟩ := hI
    rw [show max 2 n = n by omega] at hx ⊢
    exact k n h2 (Nat.le_refl _) hx

theorem s_count {st : SortSt} {n : Nat} {Q : Option Nat → SortSt → Prop} (C : Cmp prog w A E s κ a₀) (hn : n ≤ a₀.size) (h2 : 2 ≤ n) (hB : SB a₀ st)
    (k : ∀ q st', SB a₀ st' → 1 ≤ q → q ≤ n → SortedToK κ (arrOf st') q → Q (some q) st') : wpS (model prog w) A E s (countRun' 0 n) Q st := by
  rw [countRun0_eq]
  refine wpS_bind (s_asc C hn (Nat.le_refl 1) (by omega) hB (fun i j hij hj => by obtain rfl : i = j := (by omega); exact KeyOrd.kle_refl _) fun m h3 h4 hm ho => ?_)
  dsimp only
  by_cases hmn : m = n
  · rw [if_pos (by simpa using hmn)]; exact wpS_pure (k m st hB h3 h4 hm)
  · rw [if_neg (by simpa using hmn)]
    have hlt := ho.resolve_left hmn
    by_cases hg : m > 1
    · rw [if_pos hg]
      refine wpS_bind (C.lt _ _ _ _ (by omega) (by omega) (by omega) hB ?_)
      have hr : κ.blt (KK κ (arrOf st) 0) (KK κ (arrOf st) (m - 1)) = true := by
        cases hb : κ.blt (KK κ (arrOf st) 0) (KK κ (arrOf st) (m - 1)) with
        | true => rfl
        | false => exact absurd (κ.total _ _ hb (hm 0 (m - 1) (by omega) (by omega))) (C.ne 0 (m - 1) st (by omega) (by omega) hB)
      rw [hr]
      exact wpS_pure (k m st hB h3 h4 hm)
    · rw [if_neg hg]
      obtain rfl : m = 1 := by omega
      unfold descPart
      refine wpS_bind (wpS_lift (wpAny_rule ⟨rfl, ?_⟩))
      refine wpS_bind (s_desc C hn h2 hB (fun i j hij hj => ?_) fun m h5 h6 hd => ?_)
      · by_cases hi : i = j
        · subst hi; exact KeyOrd.kle_refl _
        · obtain rfl : i = 0 := by omega
          obtain rfl : j = 1 := by omega
          exact KeyOrd.kle_of_klt hlt
      · dsimp only
        rw [if_neg (by omega)]
        exact s_tail C hn (by omega) h6 hB hd k

theorem s_ins {st : SortSt} {n q : Nat} {Q : Bool → SortSt → Prop} (C : Cmp prog w A E s κ a₀) (hn : n ≤ a₀.size) (hq : q ≤ n) (hB : SB a₀ st) (hs : SortedToK κ (arrOf st) q)
    (k : ∀ st', SB a₀ st' → SortedToK κ (arrOf st') n → Q true st') : wpS (model prog w) A E s (binarySort' 0 n q) Q st := by
  rw [binarySort'_eq]
  simp only [Nat.zero_add]
  refine wpS_bind (wpS_mono (Q := fun c st' => c = (none, ()) ∧ SB a₀ st' ∧ SortedToK κ (arrOf st') n) (wpS_forRange (I := fun x c st' => c = (none, ()) ∧ SB a₀ st' ∧ SortedToK κ (arrOf st') (min x n)) (fun x c st' h1 h2 hI => ?_) (fun c st' hI => ?_) ⟨rfl, hB, fun i j hij hj => ?_⟩) fun c st' hI => ?_)
  · obtain ⟨rfl, hB', hx⟩ := hI
    rw [show min x n = x by omega] at hx
    have hxs : x < a₀.size := by omega
    refine wpS_bind (wpS_mono (Q := fun c st2 => st2 = st' ∧ ∃ l r, c = (none, l, r) ∧ l ≤ x ∧ (∀ i, i < l → κ.kle (KK κ (arrOf st') i) (KK κ (arrOf st') x)) ∧ ∀ i, l ≤ i → i < x → κ.kle (KK κ (arrOf st') x) (KK κ (arrOf st') i))
      (wpS_forRange (I := fun y c st2 => st2 = st' ∧ ∃ l r, c = (none, l, r) ∧ l ≤ r ∧ r ≤ x ∧ r - l ≤ x - y ∧ (∀ i, i < l → κ.kle (KK κ (arrOf st') i) (KK κ (arrOf st') x)) ∧ ∀ i, r ≤ i → i < x → κ.kle (KK κ (arrOf st') x) (KK κ (arrOf st') i)) (fun y c st2 h3 h4 hI => ?_) (fun c st2 hI => ?_) ⟨rfl, 0, x, rfl, by omega, by omega, by omega, fun i hi => by omega, fun i h5 h6 => by omega⟩) fun c st2 hI => ?_)
    · obtain ⟨rfl, l, r, rfl, hlr, hrx, hd, hlo, hhi⟩ := hI
      dsimp only
      by_cases hge : l ≥ r
      · rw [if_pos hge]
        obtain rfl : l = r := by omega
        exact wpS_pure ⟨rfl, l, l, rfl, hrx, hlo, hhi⟩
      · rw [if_neg hge]
        refine wpS_bind (C.lt _ _ _ _ hxs (by omega) (by omega) hB' ?_)
        cases hb : κ.blt (KK κ (arrOf st2) x) (KK κ (arrOf st2) ((l + r) / 2)) with
        | true => exact wpS_pure ⟨rfl, l, (l + r) / 2, rfl, by omega, by omega, by omega, hlo, fun i h5 h6 => KeyOrd.kle_trans (KeyOrd.kle_of_klt hb) (hx _ _ h5 h6)⟩
        | false => exact wpS_pure ⟨rfl, (l + r) / 2 + 1, r, rfl, by omega, by omega, by omega, fun i h5 => KeyOrd.kle_trans (hx i ((l + r) / 2) (by omega) (by omega)) hb, hhi⟩
    · obtain ⟨rfl, l, r, rfl, hlr, hrx, hd, hlo, hhi⟩ := hI
      obtain rfl : l = r := by omega
      exact ⟨rfl, l, l, rfl, hrx, hlo, hhi⟩
    · obtain ⟨rfl, l, r, rfl, hlx, hlo, hhi⟩ := hI
      show wpS _ _ _ _ (do moveDown' x l; pure (ForInStep.yield (none, ()))) _ _
      rw [moveDown'_eq]
      refine wpS_bind (wpS_modify (wpS_pure ⟨rfl, hB'.arr (bubble_perm _ _ _), ?_⟩))
      rw [show min (x + 1) n = x + 1 by omega]
      have hks : x < (arrOf st2).size := by rw [hB'.size]; exact hxs
      intro i j hij hj
      show κ.kle (KK κ (bubble (arrOf st2) x (x - l)) i) (KK κ (bubble (arrOf st2) x (x - l)) j)
      rw [KK_bubble hks (by omega), KK_bubble hks (by omega), show x - (x - l) = l by omega]
      repeat' split
      all_goals first
        | (exfalso; omega)
        | exact KeyOrd.kle_refl _
        | exact hlo _ (by omega)
        | exact hhi _ (by omega) (by omega)
        | exact hx _ _ (by omega) (by omega)
  · obtain ⟨rfl, hB', hx⟩ := hI
    rw [show min (max (max q 1) n) n = n by omega] at hx
    exact ⟨rfl, hB', hx⟩
  · by_cases h1 : q = 0
    · obtain rfl : i = j := by omega
      exact KeyOrd.kle_refl _
    · exact hs i j hij (by omega)
  · obtain ⟨rfl, hB', hx⟩ := hI
    exact wpS_pure (k st' hB' hx)

theorem s_runs {st : SortSt} {Q : Unit → SortSt → Prop} (C : Cmp prog w A E s κ a₀) (hB : SB a₀ st) (h2 : 2 ≤ a₀.size) (h64 : a₀.size < 64)
    (k : ∀ st', (arrOf st').Perm a₀ → failedOf st' = none → SortedToK κ (arrOf st') a₀.size → Q () st') : wpS (model prog w) A E s sortRuns' Q st := by
  rw [sortRuns'_eq]
  refine wpS_bind (wpS_get ?_)
  dsimp only
  have hmr : minRun' a₀.size a₀.size 0 = a₀.size := by
    obtain ⟨f, hf⟩ : ∃ f, a₀.size = f + 1 := ⟨a₀.size - 1, by omega⟩
    have : minRun' (f + 1) a₀.size 0 = a₀.size := by rw [minRun'_succ, if_pos h64]; rfl
    rwa [← hf] at this
  simp only [hB.size, hmr]
  have push : ∀ st', SB a₀ st' → SortedToK κ (arrOf st') a₀.size → (arrOf (setPending st' ((pendingOf st').push (0, a₀.size, 0)))).Perm a₀ ∧ failedOf (setPending st' ((pendingOf st').push (0, a₀.size, 0))) = none ∧ pendingOf (setPending st' ((pendingOf st').push (0, a₀.size, 0))) = #[(0, a₀.size, 0)] ∧ SortedToK κ (arrOf (setPending st' ((pendingOf st').push (0, a₀.size, 0)))) a₀.size :=
    fun st' h hs => ⟨h.perm, h.failed, by show (pendingOf st').push _ = _; rw [h.pend]; rfl, hs⟩
  refine wpS_bind (wpS_mono (Q := fun c st' => c = (none, a₀.size) ∧ ((arrOf st').Perm a₀ ∧ failedOf st' = none ∧ pendingOf st' = #[(0, a₀.size, 0)] ∧ SortedToK κ (arrOf st') a₀.size))
    (wpS_forRange (I := fun x c st' => (x = 0 ∧ c = (none, 0) ∧ SB a₀ st') ∨ (1 ≤ x ∧ c = (none, a₀.size) ∧ ((arrOf st').Perm a₀ ∧ failedOf st' = none ∧ pendingOf st' = #[(0, a₀.size, 0)] ∧ SortedToK κ (arrOf st') a₀.size))) (fun x c st' h3 h4 hI => ?_) (fun c st' hI => ?_) (.inl ⟨rfl, rfl, hB⟩)) fun c st' hI => ?_)
  · rcases hI with ⟨rfl, rfl, hB'⟩ | ⟨hx, rfl, hD⟩
    · dsimp only
      rw [if_neg (by omega)]
      simp only [Nat.sub_zero, Nat.min_self, Nat.zero_add]
      refine wpS_bind (s_count C (Nat.le_refl _) h2 hB' fun q st2 hB2 h5 h6 hs2 => ?_)
      dsimp only
      by_cases hlt : q < a₀.size
      · rw [if_pos hlt]
        refine wpS_bind (wpS_lift (wpAny_rule ⟨rfl, ?_⟩))
        refine wpS_bind (s_ins C (Nat.le_refl _) h6 hB2 hs2 fun st3 hB3 hs3 => ?_)
        simp only [Bool.not_true, Bool.false_eq_true, if_false]
        refine wpS_bind (wpS_get ?_)
        rw [show (pendingOf st3).back? = none by rw [hB3.pend]; rfl]
        exact wpS_bind (wpS_modify (wpS_pure (.inr ⟨by omega, rfl, push st3 hB3 hs3⟩)))
      · rw [if_neg hlt]
        obtain rfl : q = a₀.size := by omega
        refine wpS_bind (wpS_get ?_)
        rw [show (pendingOf st2).back? = none by rw [hB2.pend]; rfl]
        exact wpS_bind (wpS_modify (wpS_pure (.inr ⟨by omega, rfl, push st2 hB2 hs2⟩)))
    · dsimp only
      rw [if_pos (Nat.le_refl _)]
      exact wpS_pure ⟨rfl, hD⟩
  · rcases hI with ⟨hx, _, _⟩ | ⟨_, hc, hD⟩
    · omega
    · exact ⟨hc, hD⟩
  · obtain ⟨rfl, hD⟩ := hI
    dsimp only
    refine wpS_bind (wpS_mono (Q := fun c st2 => st2 = st' ∧ c = (none, ())) (wpS_forRange (I := fun _ c st2 => st2 = st' ∧ c = (none, ())) (fun x c st2 _ _ hI => ?_) (fun _ _ hI => hI) ⟨rfl, rfl⟩) fun c st2 hI => ?_)
    · obtain ⟨rfl, rfl⟩ := hI
      refine wpS_bind (wpS_get ?_)
      rw [if_pos (by rw [hD.2.2.1]; exact Nat.le_refl 1)]
      exact wpS_pure ⟨rfl, rfl⟩
    · obtain ⟨rfl, rfl⟩ := hI
      exact wpS_pure (k _ hD.1 hD.2.1 hD.2.2.2)
end
abbrev Tri := Int × Int × Str
noncomputable def tri (t : Tri) : PyData := .tuple [.int t.1, .int t.2.1, .str t.2.2]
abbrev key (t : Tri) : Int × Int := (t.1, t.2.1)
abbrev ltK (a b : Int × Int) : Prop := a.1 < b.1 ∨ (a.1 = b.1 ∧ a.2 < b.2)
noncomputable def ins (x : Tri) : List Tri → List Tri
  | [] => [x]
  | y :: r => if ltK (key y) (key x) then y :: ins x r else x :: y :: r
noncomputable def isort : List Tri → List Tri
  | [] => []
  | x :: r => ins x (isort r)

theorem ins_perm (x : Tri) : ∀ l, (ins x l).Perm (x :: l)
  | [] => .refl _
  | y :: r => by
    unfold ins
    split
    · exact ((ins_perm x r).cons y).trans (.swap x y r)
    · exact .refl _
theorem isort_perm : ∀ l, (isort l).Perm l
  | [] => .refl _
  | x :: r => (ins_perm x _).trans ((isort_perm r).cons x)
theorem ins_sorted (x : Tri) : ∀ l : List Tri, l.Pairwise (fun a b => ltK (key a) (key b)) → (∀ y ∈ l, key y ≠ key x) → (ins x l).Pairwise (fun a b => ltK (key a) (key b))
  | [], _, _ => by unfold ins; simp
  | y :: r, hp, hn => by
    unfold ins
    have h1 := List.pairwise_cons.mp hp
    split
    · rename_i h
      refine List.pairwise_cons.mpr ⟨fun z hz => ?_, ins_sorted x r h1.2 fun z hz => hn z (.tail _ hz)⟩
      rcases List.mem_cons.mp ((ins_perm x r).mem_iff.mp hz) with rfl | hz
      · exact h
      · exact h1.1 z hz
    · rename_i h
      have hne := hn y (.head _)
      have hxy : ltK (key x) (key y) := by
        have : ¬(y.1 = x.1 ∧ y.2.1 = x.2.1) := fun z => hne (Prod.ext z.1 z.2)
        simp only [ltK, key] at h ⊢
        omega
      refine List.pairwise_cons.mpr ⟨fun z hz => ?_, hp⟩
      rcases List.mem_cons.mp hz with rfl | hz
      · exact hxy
      · have := h1.1 z hz
        simp only [ltK, key] at this hxy ⊢
        omega
theorem isort_sorted : ∀ l : List Tri, (l.map key).Nodup → (isort l).Pairwise (fun a b => ltK (key a) (key b))
  | [], _ => by unfold isort; exact .nil
  | x :: r, h => by
    simp only [List.map_cons, List.nodup_cons] at h
    exact ins_sorted x _ (isort_sorted r h.2) fun y hy e => h.1 (e ▸ List.mem_map_of_mem ((isort_perm r).mem_iff.mp hy))
theorem sorted_uniq : ∀ {l m : List Tri}, l.Perm m → l.Pairwise (fun a b => ltK (key a) (key b)) → m.Pairwise (fun a b => ltK (key a) (key b)) → l = m
  | [], m, hp, _, _ => hp.nil_eq
  | x :: l, [], hp, _, _ => absurd hp.length_eq (by simp)
  | x :: l, y :: m, hp, h1, h2 => by
    have p1 := List.pairwise_cons.mp h1
    have p2 := List.pairwise_cons.mp h2
    have e : x = y := by
      rcases List.mem_cons.mp (hp.mem_iff.mp (.head _)) with e | hx
      · exact e
      · rcases List.mem_cons.mp (hp.mem_iff.mpr (.head _)) with e | hy
        · exact e.symm
        · have a := p2.1 x hx
          have b := p1.1 y hy
          simp only [ltK, key] at a b
          omega
    subst e
    rw [sorted_uniq (hp.cons_inv) p1.2 p2.2]

section
variable {g : Gx} {A : Around} {E : Value → Shared → Prop} {s : Shared} {as : List Addr} {h h' : Heap} {H : AH}

theorem tri_det {v : Value} {t u : Tri} (a : VR h as v (.d (tri t))) (b : VR h as v (.d (tri u))) : t = u := by
  obtain ⟨_, _, q1, _⟩ := a
  obtain ⟨_, _, q2, _⟩ := b
  obtain ⟨t1, t2, t3⟩ := t
  obtain ⟨u1, u2, u3⟩ := u
  unfold tri at q1 q2
  cases q1 with
  | @tuple a1 o1 vs1 n1 _ _ e1 e2 e3 r1 =>
    cases q2 with
    | @tuple a2 o2 vs2 n2 _ _ f1 f2 f3 r2 =>
      rw [e1] at f1; cases f1
      rw [e3] at f3; cases f3
      obtain ⟨l1⟩ := vs1
      cases r1 with
      | cons i1 r1 => cases r1 with
        | cons i2 r1 => cases r1 with
          | cons i3 r1 =>
            cases r1; cases i1; cases i2; cases i3
            cases r2 with
            | cons j1 r2 => cases r2 with
              | cons j2 r2 => cases r2 with
                | cons j3 r2 =>
                  cases r2; cases j1; cases j2; cases j3
                  rfl
theorem tri_obj {v : Value} {t : Tri} (a : VR h as v (.d (tri t))) : ∃ ad o n u1 u2 u3, v = .ref ad ∧ h.get? ad = some o ∧ o.cls = .type "tuple" ∧ o.data = .seq #[.int t.1 u1, .int t.2.1 u2, .str t.2.2 u3] n := by
  obtain ⟨_, _, q1, _⟩ := a
  obtain ⟨t1, t2, t3⟩ := t
  unfold tri at q1
  cases q1 with
  | @tuple a1 o1 vs1 n1 _ _ e1 e2 e3 r1 =>
    obtain ⟨l1⟩ := vs1
    cases r1 with
    | cons i1 r1 => cases r1 with
      | cons i2 r1 => cases r1 with
        | cons i3 r1 =>
          cases r1; cases i1; cases i2; cases i3
          exact ⟨_, o1, n1, _, _, _, rfl, e1, e2, e3⟩

theorem oneLt_false {a b : Int} {t u : Tok} {Q : Bool → Shared → Prop} (hq : Q (decide (a < b)) s) : wpAny g.M A (oneLt' false (.int a t) (.int b u)) Q E s := by
  rw [oneLt'_eq]
  simp only [Bool.false_eq_true, if_false]
  refine wpAny_bind (show wpAny g.M A (compareOp .Lt (.int a t) (.int b u)) _ E s from lt_int ?_)
  exact wpAny_truthy_bool hq
theorem keyLt_tri {x y : Value} {t u : Tri} {Q : Bool → Shared → Prop} (hx : VR s.heap as x (.d (tri t))) (hy : VR s.heap as y (.d (tri u))) (hne : key t ≠ key u) (hq : Q (decide (ltK (key t) (key u))) s) : wpAny g.M A (keyLt' (tuples' true) x y) Q E s := by
  obtain ⟨ad, o, n, a1, a2, a3, rfl, ho, hc, hd⟩ := tri_obj hx
  obtain ⟨bd, o', n', b1, b2, b3, rfl, ho', hc', hd'⟩ := tri_obj hy
  obtain ⟨t1, t2, t3⟩ := t
  obtain ⟨u1, u2, u3⟩ := u
  simp only at hd hd' hq hne
  show wpAny g.M A (do
    let xs ← Builtin.List.listItems (.ref ad); let ys ← Builtin.List.listItems (.ref bd)
    for ((p, q), i) in (xs.toList.zip ys.toList).zipIdx do
      if !(← eqBool p q) then return ← oneLt' (true && i == 0) p q
    return xs.size < ys.size) Q E s
  refine wpAny_bind (listItems_at ho hd (wpAny_bind (listItems_at ho' hd' ?_)))
  simp only [List.zip_cons_cons, List.zipIdx_cons, List.forIn_cons, List.zip_nil_right, List.zipIdx_nil, List.forIn_nil]
  refine wpAny_bind (wpAny_bind (wpAny_bind (wpAny_eqBool_int ?_)))
  by_cases e1 : t1 = u1
  · subst e1
    simp only [beq_self_eq_true, Bool.not_true, Bool.false_eq_true, if_false]
    have e2 : t2 ≠ u2 := fun z => hne (by rw [z])
    refine wpAny_pure (wpAny_bind (wpAny_bind (wpAny_eqBool_int ?_)))
    rw [show (t2 == u2) = false by simpa using e2]
    simp only [Bool.not_false, if_true]
    refine wpAny_bind (oneLt_false ?_)
    refine wpAny_pure (wpAny_pure (wpAny_pure ?_))
    have : decide (ltK (key (t1, t2, t3)) (key (t1, u2, u3))) = decide (t2 < u2) := by simp [ltK]
    rw [this] at hq; exact hq
  · have q : (t1 == u1) = false := by simpa using e1
    rw [q]
    simp only [Bool.not_false, if_true]
    refine wpAny_bind (oneLt_int ?_)
    refine wpAny_pure (wpAny_pure (wpAny_pure ?_))
    have : decide (ltK (key (t1, t2, t3)) (key (u1, u2, u3))) = decide (t1 < u1) := by simp [ltK, e1]
    rw [this] at hq; exact hq

/-! which kind of keys -/
theorem firsts_tri : ∀ {vs : List Value} {ts : List Tri} {Q : List (Option Value) → Shared → Prop}, VRs s.heap as vs (ts.map fun t => .d (tri t)) → (∀ us : List Tok, us.length = ts.length → Q ((ts.zip us).map fun p => some (.int p.1.1 p.2)) s) → wpAny g.M A (vs.mapM firstOfTuple') Q E s
  | [], ts, Q, r, k => by
    cases ts with
    | cons _ _ => cases r
    | nil => rw [List.mapM_nil]; exact wpAny_pure (k [] rfl)
  | v :: vs, [], Q, r, k => by cases r
  | v :: vs, t :: ts, Q, r, k => by
    obtain ⟨r, rs⟩ : VR s.heap as v (.d (tri t)) ∧ VRs s.heap as vs (ts.map fun t => .d (tri t)) := by cases r with | cons a b => exact ⟨a, b⟩
    obtain ⟨ad, o, n, a1, a2, a3, rfl, ho, hc, hd⟩ := tri_obj r
    rw [List.mapM_cons]
    show wpAny g.M A ((typeOf (.ref ad) >>= fun t => if (t != .type "tuple") = true then pure none else Builtin.List.listItems (.ref ad) >>= fun l => pure l[0]?) >>= _) Q E s
    refine wpAny_bind (wpAny_bind (wpAny_typeOf (T := "tuple") ⟨o, ho, hc⟩ ?_))
    simp only [bne_self_eq_false, Bool.false_eq_true, if_false]
    refine wpAny_bind (listItems_at ho hd (wpAny_pure ?_))
    refine wpAny_bind (firsts_tri rs fun us hu => wpAny_pure ?_)
    exact k (a1 :: us) (by simp [hu])
theorem types_int : ∀ {ns : List (Int × Tok)} {Q : List Value → Shared → Prop}, Q (ns.map fun _ => Value.type "int") s → wpAny g.M A ((ns.map fun p => Value.int p.1 p.2).mapM typeOf) Q E s
  | [], Q, k => by simp only [List.map_nil, List.mapM_nil]; exact wpAny_pure k
  | p :: ns, Q, k => by
    rw [List.map_cons, List.mapM_cons]
    show wpAny g.M A (pure (Value.type "int") >>= _) Q E s
    refine wpAny_bind (wpAny_pure (wpAny_bind (types_int (wpAny_pure ?_))))
    exact k
theorem kind_tri {vs : List Value} {ts : List Tri} {Q : SortKind → Shared → Prop} (hv : VRs s.heap as vs (ts.map fun t => .d (tri t))) (h2 : 2 ≤ ts.length) (k : Q (tuples' true) s) : wpAny g.M A (keyKind' vs.toArray) Q E s := by
  rw [keyKind'_eq, List.mapM_toArray]
  refine wpAny_bind ?_
  rw [map_eq_pure_bind]
  refine wpAny_bind (firsts_tri hv fun us hu => wpAny_pure ?_)
  rw [if_pos (by simp)]
  refine wpAny_bind (wpAny_rule (wpAny_bind ?_))
  rw [oneTypeOnly'_eq]
  have e : (((ts.zip us).map fun p => some (Value.int p.1.1 p.2)).toArray.filterMap id) = (((ts.zip us).map fun p => ((p.1.1, p.2) : Int × Tok)).map fun p => Value.int p.1 p.2).toArray := by
    simp [List.filterMap_map, List.map_map, Function.comp_def]
  rw [e, List.mapM_toArray]
  refine wpAny_bind ?_
  rw [map_eq_pure_bind]
  refine wpAny_bind (types_int (wpAny_pure ?_))
  have hz : 0 < (ts.zip us).length := by rw [List.length_zip]; omega
  obtain ⟨p, ps, hp⟩ : ∃ p ps, ts.zip us = p :: ps := by
    cases e : ts.zip us with
    | nil => rw [e] at hz; cases hz
    | cons p ps => exact ⟨p, ps, rfl⟩
  rw [hp]
  have hall : ((List.map (fun _ => Value.type "int") (List.map (fun p : Tri × Tok => ((p.1.1, p.2) : Int × Tok)) (p :: ps))).toArray.all fun x => x == Value.type "int") = true := by
    simp only [List.all_toArray, List.all_map, List.all_eq_true]
    intro _ _; rfl
  have h0 : (List.map (fun _ => Value.type "int") (List.map (fun p : Tri × Tok => ((p.1.1, p.2) : Int × Tok)) (p :: ps))).toArray[0]? = some (Value.type "int") := by simp
  rw [h0]
  dsimp only
  rw [hall, if_pos rfl]
  exact wpAny_pure (wpAny_pure k)

/-! keys of values -/
noncomputable def datOf (h : Heap) (as : List Addr) (v : Value) : Tri := open Classical in if e : ∃ t, VR h as v (.d (tri t)) then e.choose else (0, 0, Str.empty)
theorem datOf_eq {v : Value} {t : Tri} (a : VR h as v (.d (tri t))) : datOf h as v = t := by
  unfold datOf
  rw [dif_pos ⟨t, a⟩]
  exact tri_det (Exists.choose_spec (p := fun t => VR h as v (.d (tri t))) ⟨t, a⟩) a
noncomputable def kT (h : Heap) (as : List Addr) : KeyKind := { pOrd with keyOf := fun v => some (key (datOf h as v)), dflt := (0, 0) }
theorem KK_kT {xs : Array Keyed} {i : Nat} (hi : i < xs.size) : KK (kT h as) xs i = key (datOf h as xs[i].1) := by
  unfold KK
  rw [getElem?_pos xs i hi]; rfl
theorem vrs_dat : ∀ {vs : List Value} {ts : List Tri}, VRs h as vs (ts.map fun t => .d (tri t)) → vs.map (datOf h as) = ts
  | [], ts, r => by
    cases ts with
    | nil => rfl
    | cons _ _ => cases r
  | v :: vs, ts, r => by
    cases ts with
    | nil => cases r
    | cons t ts => cases r with | cons a r => rw [List.map_cons, datOf_eq a, vrs_dat r]
theorem vrs_mem : ∀ {vs : List Value} {ts : List Tri} {v : Value}, VRs h as vs (ts.map fun t => .d (tri t)) → v ∈ vs → VR h as v (.d (tri (datOf h as v)))
  | [], _, _, _, hm => (nomatch hm)
  | v :: vs, ts, u, r, hm => by
    cases ts with
    | nil => cases r
    | cons t ts =>
      cases r with
      | cons a r =>
        rcases List.mem_cons.mp hm with rfl | hm
        · rw [datOf_eq a]; exact a
        · exact vrs_mem r hm
theorem mem_perm {vs : List Value} {xs : Array Keyed} (hp : xs.Perm (pairsOf vs)) {i : Nat} (hi : i < xs.size) : xs[i].1 = xs[i].2 ∧ xs[i].1 ∈ vs := by
  have hl : xs.toList.Perm (vs.zip vs) := by rw [← pairsOf_toList]; exact Array.perm_iff_toList_perm.mp hp
  exact mem_zip_self (hl.mem_iff.mp (by simp))
theorem fsts_perm {vs : List Value} {xs : Array Keyed} (hp : xs.Perm (pairsOf vs)) : (xs.toList.map (·.1)).Perm vs := by
  have hl : xs.toList.Perm (vs.zip vs) := by rw [← pairsOf_toList]; exact Array.perm_iff_toList_perm.mp hp
  have := hl.map (·.1)
  rwa [List.map_fst_zip (Nat.le_refl _)] at this
theorem keys_ne {vs : List Value} {ts : List Tri} {xs : Array Keyed} (hv : VRs h as vs (ts.map fun t => .d (tri t))) (hn : (ts.map key).Nodup) (hp : xs.Perm (pairsOf vs)) {i j : Nat} (hij : i < j) (hj : j < xs.size) :
    key (datOf h as xs[i].1) ≠ key (datOf h as xs[j].1) := by
  have h1 := (fsts_perm hp).map (fun v => key (datOf h as v))
  have h2 : vs.map (fun v => key (datOf h as v)) = ts.map key := by rw [← vrs_dat hv, List.map_map]; rfl
  rw [h2] at h1
  have h3 := h1.symm.nodup hn
  rw [List.map_map, List.nodup_iff_pairwise_ne, List.pairwise_map] at h3
  have := (List.pairwise_iff_getElem.mp h3) i j (by simp; omega) (by simpa using hj) hij
  simpa using this

theorem cmp_tri {vs : List Value} {ts : List Tri} {hX : Heap} (hr : HR as H h) (hk : ∀ b o, h.get? b = some o → hX.get? b = some o) (hs : s.heap = hX) (hv : VRs h as vs (ts.map fun t => .d (tri t))) (hn : (ts.map key).Nodup) : Cmp g.prog g.w A E s (kT h as) (pairsOf vs) := by
  subst hs
  have P0 := post_keeps hr hk
  refine ⟨fun i j st Q hi hj hne hB hq => ?_, fun i j st hij hj hB => ?_⟩
  · have hi' : i < (arrOf st).size := by rw [hB.size]; exact hi
    have hj' : j < (arrOf st).size := by rw [hB.size]; exact hj
    rw [KK_kT hi', KK_kT hj'] at hq
    have ri := (vrs_mem hv (mem_perm hB.perm hi').2).step hr P0.st
    have rj := (vrs_mem hv (mem_perm hB.perm hj').2).step hr P0.st
    have kn : key (datOf h as (arrOf st)[i].1) ≠ key (datOf h as (arrOf st)[j].1) := by
      rcases Nat.lt_or_gt_of_ne hne with z | z
      · exact keys_ne hv hn hB.perm z hj'
      · exact (keys_ne hv hn hB.perm z hi').symm
    rw [ltAt'_eq]
    refine wpS_bind (wpS_get ?_)
    show wpS _ _ _ _ (do let x ← elem' (arrOf st) i; let y ← elem' (arrOf st) j; lt' x y) Q st
    rw [elem'_eq, elem'_eq, getElem?_pos (arrOf st) i hi', getElem?_pos (arrOf st) j hj']
    refine wpS_bind (wpS_pure (wpS_bind (wpS_pure ?_)))
    rw [lt'_eq]
    refine wpS_bind (wpS_get ?_)
    rw [hB.kind]
    exact wpS_bind (wpS_lift (wpAny_attempt (keyLt_tri ri rj kn ⟨rfl, wpS_pure hq⟩)))
  · have hj' : j < (arrOf st).size := by rw [hB.size]; exact hj
    rw [KK_kT (by omega), KK_kT hj']
    exact keys_ne hv hn hB.perm hij hj'

/-- what comes out -/
theorem out_eq {vs : List Value} {ts : List Tri} {xs : Array Keyed} (hv : VRs h as vs (ts.map fun t => .d (tri t))) (hn : (ts.map key).Nodup) (hp : xs.Perm (pairsOf vs)) (hs : SortedToK (kT h as) xs (pairsOf vs).size) :
    VRs h as (xs.map (·.2)).toList ((isort ts).map fun t => .d (tri t)) := by
  have e1 : (xs.map (·.2)).toList = xs.toList.map (·.1) := by
    rw [Array.toList_map]
    refine List.map_congr_left fun p hm => ?_
    obtain ⟨i, hi, rfl⟩ := List.mem_iff_getElem.mp hm
    have := (mem_perm hp (i := i) (by simpa using hi)).1
    simpa using this.symm
  rw [e1]
  have p1 := fsts_perm hp
  have p2 : ((xs.toList.map (·.1)).map (datOf h as)).Perm ts := by have := p1.map (datOf h as); rwa [vrs_dat hv] at this
  have s1 : ((xs.toList.map (·.1)).map (datOf h as)).Pairwise (fun a b => ltK (key a) (key b)) := by
    rw [List.pairwise_iff_getElem]
    intro i j hi hj hij
    have hj' : j < xs.size := by simpa using hj
    have hi' : i < xs.size := by omega
    have h1 := hs i j (Nat.le_of_lt hij) (by rw [← hp.size_eq]; exact hj')
    have h2 := keys_ne hv hn hp hij hj'
    rw [KK_kT hi', KK_kT hj'] at h1
    simp only [List.getElem_map, Array.getElem_toList]
    have h3 : ¬ ltK (key (datOf h as xs[j].1)) (key (datOf h as xs[i].1)) := of_decide_eq_false h1
    have h4 : ¬((datOf h as xs[i].1).1 = (datOf h as xs[j].1).1 ∧ (datOf h as xs[i].1).2.1 = (datOf h as xs[j].1).2.1) := fun z => h2 (Prod.ext z.1 z.2)
    simp only [ltK, key] at h3 ⊢
    omega
  rw [← sorted_uniq (p2.trans (isort_perm ts).symm) s1 (isort_sorted ts hn)]
  have all : ∀ v ∈ xs.toList.map (·.1), VR h as v (.d (tri (datOf h as v))) := fun v hm => vrs_mem hv (p1.mem_iff.mp hm)
  generalize xs.toList.map (·.1) = l at all
  clear s1 p2 p1 e1
  induction l with
  | nil => exact .nil
  | cons v l ih => exact .cons (all v (.head _)) (ih fun u hu => all u (.tail _ hu))
end
section
variable {g : Gx} {A : Around} {E : Value → Shared → Prop} {s : Shared} {as : List Addr} {h h' : Heap} {H : AH}

theorem sort_tree {a : Addr} {vs : List Value} {ts : List Tri} {n : Nat} {P : Fin → Shared → Prop} (hr : HR as H h) (hk : ∀ b o, h.get? b = some o → s.heap.get? b = some o) (hna : h.get? a = none) (ho : s.heap.get? a = some (seqObj "list" vs.toArray n)) (hv : VRs h as vs (ts.map fun t => .d (tri t))) (hn : (ts.map key).Nodup) (h64 : vs.length < 64)
    (k : ∀ out : Array Value, VRs h as out.toList ((isort ts).map fun t => .d (tri t)) → P (.done (.ret .none)) { s with heap := sortedHeap s.heap a vs out }) : wpAny g.M A (Builtin.«list.sort» ⟨[.ref a], []⟩) P E s := by
  rw [list_sort_plain]
  have ha : a < s.heap.objs.size := Heap.lt_size ho
  have ne : ∀ b o, h.get? b = some o → b ≠ a := fun b o e z => by rw [z, hna] at e; cases e
  refine wpAny_bind (listItems_at ho rfl ?_)
  refine wpAny_bind (listUpdate_at ho rfl ?_)
  obtain ⟨e1, ho1⟩ : ∃ e1, (s.heap.update a (Obj.mapSeq fun _ => #[])).get? a = some (seqObj "list" #[] e1) := ⟨_, get?_update_seq ho (fun _ => #[])⟩
  refine wpAny_bind (seqEpoch_at ho1 rfl ?_)
  refine wpAny_bind (wpAny_newTuple ?_)
  refine wpAny_bind (wpAny_newList ?_)
  refine wpAny_holding ?_
  have ho6 : (((s.heap.update a (Obj.mapSeq fun _ => #[])).push (seqObj "tuple" vs.toArray 0)).push (seqObj "list" #[] 0)).get? a = some (seqObj "list" #[] e1) := by
    rw [Heap.get?_push_ne _ _ _ (by rw [size_push', Heap.size_update]; exact Nat.ne_of_lt (Nat.lt_succ_of_lt ha)), Heap.get?_push_ne _ _ _ (by rw [Heap.size_update]; exact Nat.ne_of_lt ha)]
    exact ho1
  have hkX : ∀ b o, h.get? b = some o → (((s.heap.update a (Obj.mapSeq fun _ => #[])).push (seqObj "tuple" vs.toArray 0)).push (seqObj "list" #[] 0)).get? b = some o := fun b o e =>
    Heap.get?_push_of_some _ (Heap.get?_push_of_some _ (by rw [Heap.get?_update_ne _ _ _ _ (ne b o e)]; exact hk b o e))
  show wpAny g.M A _ P E { s with heap := ((s.heap.update a (Obj.mapSeq fun _ => #[])).push (seqObj "tuple" vs.toArray 0)).push (seqObj "list" #[] 0) }
  dsimp only
  have hlen : vs.length = ts.length := by rw [hv.len, List.length_map]
  have hsz : vs.toArray.size = vs.length := by simp
  by_cases h2 : vs.toArray.size < 2
  · rw [if_pos h2, if_pos h2]
    refine wpAny_bind (wpAny_pure ?_)
    rw [StateT.run_pure]
    refine wpAny_bind (wpAny_pure ?_)
    dsimp only
    refine wpAny_bind (seqEpoch_at ho6 rfl ?_)
    refine wpAny_bind (listUpdate_at ho6 rfl ?_ (hsz2 := by rw [Array.size_map]; show (pairsOf vs).size ≤ _; rw [pairsOf_size, sizeLine_eq]; omega))
    simp only [bne_self_eq_false, Bool.false_eq_true, if_false]
    refine wpAny_pure (k _ (out_eq hv hn (Array.Perm.refl _) ?_))
    intro i j hij hj
    obtain rfl : i = j := by rw [pairsOf_size] at hj; omega
    exact KeyOrd.kle_refl _
  · rw [if_neg h2, if_neg h2]
    refine wpAny_bind (kind_tri (s := { s with heap := ((s.heap.update a (Obj.mapSeq fun _ => #[])).push (seqObj "tuple" vs.toArray 0)).push (seqObj "list" #[] 0) }) (hv.steps hr (post_keeps hr hkX).st) (by omega) ?_)
    refine wpAny_bind (wpAny_mono (s_runs (a₀ := pairsOf vs) (st := SortSt.mk' (tuples' true) (vs.toArray.zip vs.toArray) #[] 7 none)
      (Q := fun _ st' => (arrOf st').Perm (pairsOf vs) ∧ failedOf st' = none ∧ SortedToK (kT h as) (arrOf st') (pairsOf vs).size)
      (cmp_tri hr hkX rfl hv hn) ⟨Array.Perm.refl _, rfl, rfl, rfl⟩ (by rw [pairsOf_size]; omega) (by rw [pairsOf_size]; exact h64) fun st' a1 a2 a3 => ⟨a1, a2, a3⟩) ?_ fun _ _ e => e)
    rintro ⟨⟨⟩, st'⟩ s' ⟨rfl, hp, hf, hs⟩
    dsimp only
    refine wpAny_bind (seqEpoch_at ho6 rfl ?_)
    refine wpAny_bind (listUpdate_at ho6 rfl ?_ (hsz2 := by refine Nat.le_trans (Nat.le_of_eq ((Array.size_map ..).trans (hp.size_eq.trans (pairsOf_size _)))) ?_; rw [sizeLine_eq]; omega))
    rw [hf]
    simp only [bne_self_eq_false, Bool.false_eq_true, if_false]
    exact wpAny_pure (k _ (out_eq hv hn hp hs))

noncomputable def trips : List PyData → Option (List Tri)
  | [] => some []
  | .tuple [.int a, .int b, .str x] :: r => (trips r).map ((a, b, x) :: ·)
  | _ :: _ => none
theorem trips_eq : ∀ {l : List PyData} {ts : List Tri}, trips l = some ts → l = ts.map tri
  | [], _, e => by cases e; rfl
  | d :: l, ts, e => by
    unfold trips at e
    split at e
    · cases ‹d :: l = []›
    · rename_i a b x r heq
      cases heq
      obtain ⟨ts', e', rfl⟩ := Option.map_eq_some_iff.mp e
      rw [trips_eq e']; rfl
    · cases e
/-- sorted, of unlike triples -/
noncomputable def sortO : List AV → AH → Option (AV × AH)
  | [x], H => (asD x H).bind fun d => match d with
    | .list l => (trips l).bind fun ts => if l.length < 64 ∧ (ts.map key).Nodup then some (.d (.list ((isort ts).map tri)), H) else none
    | _ => none
  | _, _ => none
theorem vrs_reads {vs : List Value} {ts : List Tri} (hv : VRs h as vs (ts.map fun t => .d (tri t))) : PyData.canLayAll0 (ts.map tri) = true ∧ ∃ bs, ReadsAll h vs (ts.map tri) bs ∧ ∀ b ∈ bs, b ∉ as :=
  hv.readsAll (by rw [List.map_map]; rfl)
theorem b_sorted : BOk g "sorted" sortO := by
  intro A as H s Q E vs xs z H' hu hr hv e k
  unfold sortO at e
  split at e
  case h_2 => cases e
  rename_i x
  obtain ⟨d, e1, e⟩ := Option.bind_eq_some_iff.mp e
  split at e
  case h_2 => cases e
  rename_i l
  obtain ⟨ts, e2, e⟩ := Option.bind_eq_some_iff.mp e
  split at e
  case isFalse => cases e
  rename_i hz
  cases e
  obtain ⟨v, rfl, r⟩ := hv.un1
  obtain ⟨a, us, rfl, hL, hc, bs, rl, hn⟩ := r.list hr e1
  have hlen := readsAll_len rl
  have hl := trips_eq e2
  have hvs : VRs s.heap as us (ts.map fun t => .d (tri t)) := by
    have := readsAll_vrs rl hc hn
    rw [hl, List.map_map] at this; exact this
  refine Calls.call_function_entry kind_sorted plain_sorted entry_sorted (args_sorted1 _) ?_
  unfold Builtin.«sorted»
  refine wpAny_bind (m := checkCount "sorted" 1 1 _) (wpAny_pure ?_)
  refine wpAny_bind (collect_list hL ?_ (by rw [sizeLine_eq]; omega))
  refine wpAny_bind (wpAny_newList ?_ (by rw [sizeLine_eq]; omega))
  have hsz : ((s.heap.push (seqObj "list" #[] 0)).update s.heap.objs.size (Obj.mapSeq (· ++ us.toArray))).objs.size = s.heap.objs.size + 1 := by rw [Heap.size_update, size_push']
  have hoL : (((s.heap.push (seqObj "list" #[] 0)).update s.heap.objs.size (Obj.mapSeq (· ++ us.toArray))).push (seqObj "list" us.toArray 0)).get? (s.heap.objs.size + 1) = some (seqObj "list" us.toArray 0) := by
    rw [← hsz]; exact Heap.get?_push_size _ rfl
  show wpAny _ _ _ _ _ { s with heap := ((s.heap.push (seqObj "list" #[] 0)).update s.heap.objs.size (Obj.mapSeq (· ++ us.toArray))).push (seqObj "list" us.toArray 0) }
  rw [hsz]
  have hk : ∀ b o, s.heap.get? b = some o → (((s.heap.push (seqObj "list" #[] 0)).update s.heap.objs.size (Obj.mapSeq (· ++ us.toArray))).push (seqObj "list" us.toArray 0)).get? b = some o := fun b o e =>
    Heap.get?_push_of_some _ (by rw [Heap.get?_update_ne _ _ _ _ (Nat.ne_of_lt (Heap.lt_size e))]; exact Heap.get?_push_of_some _ e)
  have hna : s.heap.get? (s.heap.objs.size + 1) = none := by
    cases e : s.heap.get? (s.heap.objs.size + 1) with
    | none => rfl
    | some o => exact absurd (Nat.lt_of_succ_lt (Heap.lt_size e)) (Nat.lt_irrefl _)
  refine wpAny_bind (wpAny_holding (wpAny_call_entry slot_list_sort ⟨_, hoL, rfl⟩ entry_list_sort (sort_tree (h := s.heap) hr hk hna hoL hvs hz.2 (by omega) fun out ho => ⟨_, rfl, ?_⟩) (args_list_sort _)))
  refine wpAny_pure ⟨_, rfl, ?_⟩
  have kp : ∀ b o, s.heap.get? b = some o → (sortedAll s.heap us out).get? b = some o := fun b o e => sortedAll_old e
  have P1 := post_keeps hr kp
  obtain ⟨cc, es, ro, hes⟩ := vrs_reads (ho.steps hr P1.st)
  obtain ⟨ep, hat⟩ := sortedAll_at s.heap us out
  have hat' : (sortedAll s.heap us out).get? (s.heap.objs.size + 1) = some { cls := .type "list", data := .seq (List.toArray out.toList) ep } := by simpa using hat
  refine k as _ (sortedAll s.heap us out) s.toks P1 ⟨by simpa [PyData.canLay0] using cc, (s.heap.objs.size + 1) :: es, .list hat' rfl rfl (show ReadsAll (sortedAll s.heap us out) (List.toArray out.toList).toList _ _ by simpa using ro), fun b m => ?_⟩
  rcases List.mem_cons.mp m with rfl | m
  · intro m
    obtain ⟨_, _, e⟩ := hr.seq m
    rw [hna] at e; cases e
  · exact hes b m
end
/-! _law_due -/
abbrev duN : List Str := ["jobs", "names", "due", "depth", "k", "hour", "above", "bound", "first", "wait"]
noncomputable def duP : { G : Den // ∀ (g : Gx) (gl : Gl2 g) (c : Cx) (a L : Addr) (cd : Value), 1 ≤ c.lv → c.A.handled = none → FEnv c (envOfC (dr 33).name (dr 33).scope L a cd) duN → SS g c (envOfC (dr 33).name (dr 33).scope L a cd) duN (dr 33).body G } :=
  ⟨_, fun g gl c a L cd hl hh fe =>
    SS.cons (SX.assignC (i := 1) (ca := L + 1) fe rfl rfl (SE.comp (ns' := ["job"]) (js := []) (cl := []) 1
      { hcell := by decide, hkind := rfl, hcl := fun p hp => (nomatch hp), hclos := rfl, hnames := by decide, nd := by decide,
        cap := fun C p j hp => (nomatch hp),
        parts := fun C ce => ⟨TG.name (i := 0) (Sto.comp ce rfl), CTs.nil,
          SE.call (ln_cf gl) (gl.recs 32 (by decide)) rfl hl (fun _ => hh) ce.toEnvOk (SEs.cons (SE.item (SE.name (i := 0) rfl) SE.int) SEs.nil)⟩ }
      fe hh (SIt.seq (SE.name (i := 0) rfl))))
    (SS.cons (SX.assign (i := 2) fe rfl (SE.listT SEs.nil))
    (SS.cons (SX.for hh fe (Tgt.local (i := 3) fe rfl) (SIt.range gl.range fe.toEnvOk (SEs.cons SE.int (SEs.cons SE.int SEs.nil)))
      (SS.cons (SX.for hh fe (Tgt.cell (i := 4) (ca := L + 2) fe rfl rfl) (SIt.range gl.range fe.toEnvOk (SEs.cons (SE.builtin b_len gl.len fe.toEnvOk (SEs.cons (SE.name (i := 0) rfl) SEs.nil)) SEs.nil))
        (SS.cons (SX.ite (ST.cmp op_eq (SE.builtin b_len gl.len fe.toEnvOk (SEs.cons (SE.item (SE.name (i := 1) rfl) (SE.name (i := 4) rfl)) SEs.nil)) (SE.name (i := 3) rfl))
          (SS.cons (SX.assignComp (i := 6) (ns' := ["k", "names", "hour", "one", "told"]) (js := [4, 1]) (cl := [("names", L + 1), ("k", L + 2)]) 3
            { hcell := by decide, hkind := rfl, hcl := fun p hp => by
                rcases List.mem_cons.mp hp with rfl | hp
                · exact .tail _ (.head _)
                · rw [List.mem_singleton.mp hp]; exact .head _,
              hclos := rfl, hnames := by decide, nd := by decide,
              cap := fun C p j hp => match p, hp with
                | 0, hp => by cases hp; exact ⟨"k", L + 2, rfl, rfl, rfl, rfl, rfl, rfl⟩
                | 1, hp => by cases hp; exact ⟨"names", L + 1, rfl, rfl, rfl, rfl, rfl, rfl⟩,
              parts := fun C ce => ⟨TG.tuple (is := [2, 3, 4]) (fun _ _ h k => h.imp fun m x => x.keeps k) ⟨⟨_, _, rfl, Sto.comp ce rfl⟩, ⟨_, _, rfl, Sto.comp ce rfl⟩, ⟨_, _, rfl, Sto.comp ce rfl⟩, trivial⟩,
                CTs.one (ST.cmp op_eq (SE.name (i := 4) rfl) (SE.binop op_cat SE.sk (SE.method g_join b_join SE.sk (SEs.cons (SE.slice (fi := none) (fj := some _) (SE.item (SE.name (i := 1) rfl) (SE.name (i := 0) rfl)) trivial (unary_neg SE.int)) SEs.nil)))),
                SE.tuple (SEs.cons (SE.name (i := 2) rfl) (SEs.cons (SE.name (i := 3) rfl) SEs.nil))⟩ }
            fe hh (SIt.seq (SE.name (i := 2) rfl)) rfl)
          (SS.cons (SX.assign (i := 7) fe rfl SE.int)
          (SS.cons (SX.ite (ST.cmp op_eq (SE.name (i := 3) rfl) SE.int) (SS.cons (SX.assign (i := 7) fe rfl SE.int) SS.nil)
            (SS.cons (SX.ite (ST.cmp op_ne (SE.name (i := 6) rfl) (SE.list SEs.nil))
              (SS.cons (SX.assign (i := 7) fe rfl (SE.binop op_add (SE.item (SE.builtinH hh b_min gl.min fe.toEnvOk (SEs.cons (SE.name (i := 6) rfl) SEs.nil)) SE.int)
                (SE.ifExp (ST.cmp op_le (SE.name (i := 4) rfl) (SE.item (SE.builtinH hh b_min gl.min fe.toEnvOk (SEs.cons (SE.name (i := 6) rfl) SEs.nil)) SE.int)) SE.int SE.int))) SS.nil) SS.nil) SS.nil))
          (SS.cons (SX.assign (i := 8) fe rfl (SE.item (SE.item (SE.name (i := 0) rfl) (SE.name (i := 4) rfl)) SE.int))
          (SS.cons (SX.assign (i := 9) fe rfl (SE.item (SE.item (SE.name (i := 0) rfl) (SE.name (i := 4) rfl)) SE.int))
          (SS.cons (SX.assign (i := 5) fe rfl (SE.binop op_add (SE.name (i := 8) rfl) (SE.binop op_mul (SE.builtinH hh b_max gl.max fe.toEnvOk (SEs.cons SE.int (SEs.cons
              (SE.binop op_fdiv (SE.binop op_sub (SE.binop op_add (SE.binop op_sub (SE.name (i := 7) rfl) (SE.name (i := 8) rfl)) (SE.name (i := 9) rfl)) SE.int) (SE.name (i := 9) rfl)) SEs.nil))) (SE.name (i := 9) rfl))))
          (SS.cons (SX.expr (SE.method g_append b_append (SE.name (i := 2) rfl) (SEs.cons (SE.tuple (SEs.cons (SE.name (i := 5) rfl) (SEs.cons (SE.name (i := 4) rfl) (SEs.cons
              (SE.ifExp (ST.cmp op_lt (SE.name (i := 5) rfl) SE.int) (SE.binop op_cat SE.sk (SE.method g_join b_join SE.sk (SEs.cons (SE.item (SE.name (i := 1) rfl) (SE.name (i := 4) rfl)) SEs.nil))) SE.sk) SEs.nil)))) SEs.nil))) SS.nil)))))))
          SS.nil) SS.nil)) SS.nil))
    (SS.cons (SX.ret (SE.builtin b_sorted gl.sorted fe.toEnvOk (SEs.cons (SE.name (i := 2) rfl) SEs.nil))) SS.nil)))⟩
theorem du_cells (q : Nat) : cellsFrom q (dr 33).scope.names [] = ([(("k" : Str), q + 1), (("names" : Str), q)] : List (Str × Addr)) := rfl
theorem du_cf {g : Gx} (gl : Gl2 g) : CF g (dr 33).name 2 true (bodyD 1 9 duP.1) :=
  CF.of_bodyC (ps := ["jobs"]) (ns := duN) (gl.recs 33 (by decide)) (fun vs pm cd doc hv => by obtain ⟨_, rfl⟩ := len1 hv; rfl) (fun y hy q => by rw [List.mem_singleton.mp hy]; exact .inl rfl) (by decide) ⟨_, rfl⟩ (fun q => by rw [du_cells]; simp) rfl rfl rfl
    (fun q p hp => by
      rw [du_cells] at hp ⊢
      rcases List.mem_cons.mp hp with rfl | hp
      · rfl
      · rw [List.mem_singleton.mp hp]; rfl) fun c a L cd hl hh fe => duP.2 g gl c a L cd hl (hh rfl) fe

/-! law -/
abbrev lawN : List Str := ["script", "jobs"]
noncomputable def lawP : { G : Den // ∀ (g : Gx) (gl : Gl2 g) (c : Cx) (a L : Addr) (cd : Value), 4 ≤ c.lv → c.A.handled = none → c.outer = [] → FEnv c (envOf (dr 34).name (dr 34).scope L a cd) lawN → SS g c (envOf (dr 34).name (dr 34).scope L a cd) lawN (dr 34).body G } :=
  ⟨_, fun g gl c a L cd hl hh ho fe =>
    SS.cons (SX.assign (i := 1) fe rfl (SE.call (lj_cf gl) (gl.recs 29 (by decide)) rfl (Nat.le_trans (by decide) hl) (fun _ => hh) fe.toEnvOk (SEs.cons
      (SE.binop op_lcat (SE.list (SEs.cons SE.int (SEs.cons SE.int SEs.nil)))
        (SE.comp (ns' := ["x"]) (js := []) (cl := []) 1
          { hcell := by decide, hkind := rfl, hcl := fun p hp => (nomatch hp), hclos := rfl, hnames := by decide, nd := by decide,
            cap := fun C p j hp => (nomatch hp),
            parts := fun C ce => ⟨TG.name (i := 0) (Sto.comp ce rfl), CTs.nil, SE.binop op_mod (SE.name (i := 0) rfl) SE.int⟩ }
          fe hh (SIt.seq (SE.slice (fi := none) (fj := some _) (SE.name (i := 0) rfl) trivial SE.int)))) SEs.nil)))
    (SS.cons (SX.retW op_eq (SEw.call (lw_cf gl) (gl.recs 31 (by decide)) rfl ho hl hh fe rfl (SEs.cons (SE.name (i := 1) rfl) SEs.nil))
      (SE.call (du_cf gl) (gl.recs 33 (by decide)) rfl (Nat.le_trans (by decide) hl) (fun _ => hh) fe.toEnvOk (SEs.cons (SE.name (i := 1) rfl) SEs.nil))) SS.nil)⟩
/-! the heap's defs as functions on lists of pairs -/
abbrev Kk := Int × Int
abbrev iV (n : Int) : Option AV := some (.d (.int n))
noncomputable abbrev pV (p : Kk) : Option AV := some (.d (prD p))
noncomputable def hH (H : AH) (i : Nat) (l : List Kk) : AH := H.set i (l.map prD)
noncomputable def at0 (l : List Kk) (p : Nat) : Kk := l.getD p (0, 0)
theorem hH_get {H : AH} {i : Nat} (hi : i < H.length) (l : List Kk) : (hH H i l)[i]? = some (l.map prD) := by
  unfold hH; rw [List.getElem?_set_self hi]
theorem hH_set {H : AH} {i : Nat} (l m : List Kk) : (hH H i l).set i (m.map prD) = hH H i m := by
  unfold hH; rw [List.set_set]
theorem hH_as {H : AH} {i : Nat} (hi : i < H.length) (l : List Kk) : asD (.r i) (hH H i l) = some (.list (l.map prD)) := by
  show ((hH H i l)[i]?).map PyData.list = _
  rw [hH_get hi]; rfl
theorem hH_it {H : AH} {i : Nat} (hi : i < H.length) {l : List Kk} (hl : l.length ≤ 1000) {p : Nat} (hp : p < l.length) {z : Int} (hz : z = (p : Int)) : itO (.r i) (.d (.int z)) (hH H i l) = some (.d (prD (at0 l p))) := by
  subst hz
  unfold itO at0
  rw [hH_as hi]
  have e : seqIndex? (p : Int) (l.map prD).length = some p := by
    unfold seqIndex?; simp; omega
  simp only
  rw [if_pos (by rw [List.length_map]; omega), e]
  simp [List.getElem?_map, List.getD, List.getElem?_eq_getElem hp]
theorem hH_st {H : AH} {i : Nat} (hi : i < H.length) {l : List Kk} (hl : l.length ≤ 1000) {p : Nat} (hp : p < l.length) {z : Int} (hz : z = (p : Int)) (y : Kk) : setO (.r i) (.d (.int z)) (.d (prD y)) (hH H i l) = some (hH H i (l.set p y)) := by
  subst hz
  unfold setO
  simp only
  rw [hH_get hi]
  simp only [Option.bind_some, List.length_map]
  rw [if_pos ⟨by omega, by omega, by omega⟩, Int.toNat_natCast, ← List.map_set, hH_set]
theorem hH_len {H : AH} {i : Nat} (hi : i < H.length) {l : List Kk} (hl : l.length ≤ 1000) : lenO [.r i] (hH H i l) = some (.d (.int l.length), hH H i l) := by
  unfold lenO
  simp only
  rw [hH_as hi]
  simp only [Option.bind_some, List.length_map]
  rw [if_pos (by omega)]

noncomputable def sd (x : Kk) (s : Nat) : Nat → Nat → List Kk → List Kk × Nat
  | 0, p, l => (l, p)
  | n + 1, p, l => if s < p then (if ltK x (at0 l ((p - 1) / 2)) then sd x s n ((p - 1) / 2) (l.set p (at0 l ((p - 1) / 2))) else (l, p)) else (l, p)
theorem shr1 {p : Nat} (h : 0 < p) : Int.fdiv ((p : Int) - 1) (2 ^ (1 : Int).toNat) = (((p - 1) / 2 : Nat) : Int) := by
  rw [show ((p : Int) - 1) = ((p - 1 : Nat) : Int) from by omega]
  exact Int.fdiv_eq_ediv_of_nonneg _ (by decide)

noncomputable def dnT : Lo → AH → Option (Bool × AH) := cmpD (icmp fun a b => decide (b < a)) (ldD 2) (ldD 1)
noncomputable def dnW : Den :=
    (seqD (setD 4 (opD (iop fun a b => if 0 ≤ b then some (Int.fdiv a (2 ^ b.toNat)) else none) (opD (iop fun a b => some (a - b)) (ldD 2) (kD (.int 1))) (kD (.int 1))))
    (seqD (setD 5 (opD itO (ldD 0) (ldD 4)))
    (seqD (iteD (cmpD ltO (ldD 3) (ldD 5)) (seqD (storeD (ldD 5) (ldD 0) (ldD 2)) (seqD (setD 2 (ldD 4)) (seqD (flowD .cont) doneD))) doneD)
    (seqD (flowD .brk) doneD))))

section
variable {lo lo1 : Lo} {H H1 H2 H3 : AH} {a b : Den} {f f1 f2 f3 : Lo → AH → Option (AV × AH)} {fs : Lo → AH → Option (List AV × AH)} {t : Lo → AH → Option (Bool × AH)} {v w u : AV} {i : Nat} {r : Option (AF × Lo × AH)} {fl : AF}
theorem seqN (h : a lo H = some (.next, lo1, H1)) : seqD a b lo H = b lo1 H1 := by unfold seqD; rw [h]; rfl
theorem seqC (h : a lo H = some (.cont, lo1, H1)) : seqD a b lo H = some (.cont, lo1, H1) := by unfold seqD; rw [h]; rfl
theorem seqR (h : a lo H = some (.ret v, lo1, H1)) : seqD a b lo H = some (.ret v, lo1, H1) := by unfold seqD; rw [h]; rfl
theorem setN (h : f lo H = some (v, H1)) : setD i f lo H = some (.next, lo.set i (some v), H1) := by unfold setD; rw [h]; rfl
theorem retN (h : f lo H = some (v, H1)) : retD f lo H = some (.ret v, lo, H1) := by unfold retD; rw [h]; rfl
theorem exprN (h : f lo H = some (v, H1)) : exprD f lo H = some (.next, lo, H1) := by unfold exprD; rw [h]; rfl
theorem opN {o : AV → AV → AH → Option AV} (h1 : f1 lo H = some (v, H1)) (h2 : f2 lo H1 = some (w, H2)) (h3 : o v w H2 = some u) : opD o f1 f2 lo H = some (u, H2) := by unfold opD; rw [h1, Option.bind_some, h2, Option.bind_some, h3]; rfl
theorem cmpN {o : AV → AV → AH → Option Bool} {z : Bool} (h1 : f1 lo H = some (v, H1)) (h2 : f2 lo H1 = some (w, H2)) (h3 : o v w H2 = some z) : cmpD o f1 f2 lo H = some (z, H2) := by unfold cmpD; rw [h1, Option.bind_some, h2, Option.bind_some, h3]; rfl
theorem iteT (h : t lo H = some (true, H1)) : iteD t a b lo H = a lo H1 := by unfold iteD; rw [h]; rfl
theorem iteF (h : t lo H = some (false, H1)) : iteD t a b lo H = b lo H1 := by unfold iteD; rw [h]; rfl
theorem iteB {z : Bool} (h : t lo H = some (z, H1)) : iteD t a b lo H = if z then a lo H1 else b lo H1 := by unfold iteD; rw [h]; rfl
theorem storeN (h1 : f1 lo H = some (v, H1)) (h2 : f2 lo H1 = some (w, H2)) (h3 : f3 lo H2 = some (u, H3)) {H4 : AH} (h4 : setO w u v H3 = some H4) : storeD f1 f2 f3 lo H = some (.next, lo, H4) := by
  unfold storeD; rw [h1, Option.bind_some, h2, Option.bind_some, h3, Option.bind_some, h4]; rfl
theorem callN {o : List AV → AH → Option (AV × AH)} {xs : List AV} {q : Option (AV × AH)} (h : fs lo H = some (xs, H1)) (h2 : o xs H1 = q) : callD o fs lo H = q := by unfold callD; rw [h]; exact h2
theorem notN {z : Bool} (h : t lo H = some (z, H1)) : notD t lo H = some (!z, H1) := by unfold notD; rw [h]; rfl
theorem andF {t2 : Lo → AH → Option (Bool × AH)} (h : t lo H = some (false, H1)) : andD t t2 lo H = some (false, H1) := by unfold andD; rw [h]; rfl
theorem andT {t2 : Lo → AH → Option (Bool × AH)} (h : t lo H = some (true, H1)) : andD t t2 lo H = t2 lo H1 := by unfold andD; rw [h]; rfl
theorem whF {n : Nat} (h : t lo H = some (false, H1)) : whileD t a (n + 1) lo H = some (.next, lo, H1) := by unfold whileD; rw [h]; rfl
theorem whN {n : Nat} (h : t lo H = some (true, H1)) (h2 : a lo H1 = some (.next, lo1, H2)) : whileD t a (n + 1) lo H = whileD t a n lo1 H2 := by rw [whileD, h, Option.bind_some]; simp only [if_true]; rw [h2]; rfl
theorem whC {n : Nat} (h : t lo H = some (true, H1)) (h2 : a lo H1 = some (.cont, lo1, H2)) : whileD t a (n + 1) lo H = whileD t a n lo1 H2 := by rw [whileD, h, Option.bind_some]; simp only [if_true]; rw [h2]; rfl
theorem whB {n : Nat} (h : t lo H = some (true, H1)) (h2 : a lo H1 = some (.brk, lo1, H2)) : whileD t a (n + 1) lo H = some (.next, lo1, H2) := by rw [whileD, h, Option.bind_some]; simp only [if_true]; rw [h2]; rfl
theorem bodyN {n k : Nat} {xs : List AV} (h : xs.length = n) (h2 : a (xs.map some ++ List.replicate k none) H = some (.ret v, lo1, H1)) : bodyD n k a xs H = some (v, H1) := by unfold bodyD; rw [if_pos h, h2]; rfl
theorem bodyX {n k : Nat} {xs : List AV} (h : xs.length = n) (h2 : a (xs.map some ++ List.replicate k none) H = some (.next, lo1, H1)) : bodyD n k a xs H = some (.d .none, H1) := by unfold bodyD; rw [if_pos h, h2]; rfl
end

/-! _siftdown -/
section
variable {H : AH} {i : Nat} (hi : i < H.length)
include hi
theorem dn_w {l : List Kk} (hl : l.length ≤ 1000) {p s : Nat} (hp : p < l.length) (h0 : s < p) (x : Kk) (a4 a5 : Option AV) :
    dnW [some (.r i), iV s, iV p, pV x, a4, a5] (hH H i l) = some (if ltK x (at0 l ((p - 1) / 2)) then (.cont, [some (.r i), iV s, iV ((p - 1) / 2 : Nat), pV x, iV ((p - 1) / 2 : Nat), pV (at0 l ((p - 1) / 2))], hH H i (l.set p (at0 l ((p - 1) / 2)))) else (.brk, [some (.r i), iV s, iV p, pV x, iV ((p - 1) / 2 : Nat), pV (at0 l ((p - 1) / 2))], hH H i l)) := by
  have e0 := shr1 (p := p) (by omega)
  refine (seqN (setN (opN rfl rfl (congrArg (fun z => some (AV.d (.int z))) e0)))).trans ((seqN (setN (opN rfl rfl (hH_it hi hl (by omega) rfl)))).trans ?_)
  by_cases h : ltK x (at0 l ((p - 1) / 2))
  · rw [if_pos h]
    exact seqC ((iteT (cmpN rfl rfl (congrArg some (decide_eq_true h)))).trans ((seqN (storeN rfl rfl rfl (hH_st hi hl hp rfl _))).trans rfl))
  · rw [if_neg h]
    exact (seqN (iteF (cmpN rfl rfl (congrArg some (decide_eq_false h))))).trans rfl
omit hi in
theorem sd_len (x : Kk) (s : Nat) : ∀ (n p : Nat) (l : List Kk), (sd x s n p l).1.length = l.length := by
  intro n; induction n with
  | zero => intro p l; rfl
  | succ n ih =>
    intro p l; unfold sd
    split
    · split
      · rw [ih, List.length_set]
      · rfl
    · rfl
theorem dn_loop (x : Kk) (s : Nat) : ∀ (n p : Nat) (l : List Kk) (a4 a5 : Option AV), p ≤ n → p < l.length → l.length ≤ 1000 →
    ∃ b4 b5, whileD dnT dnW (n + 1) [some (.r i), iV s, iV p, pV x, a4, a5] (hH H i l) = some (.next, [some (.r i), iV s, iV (sd x s n p l).2, pV x, b4, b5], hH H i (sd x s n p l).1) := by
  intro n
  induction n with
  | zero =>
    intro p l a4 a5 h hp hl
    cases Nat.le_zero.mp h
    exact ⟨_, _, whF (cmpN rfl rfl (congrArg some (decide_eq_false (by omega))))⟩
  | succ n ih =>
    intro p l a4 a5 h hp hl
    have et : dnT [some (.r i), iV s, iV p, pV x, a4, a5] (hH H i l) = some (decide ((s : Int) < p), hH H i l) := rfl
    unfold sd
    by_cases h0 : s < p
    · rw [if_pos h0]
      rw [decide_eq_true (by omega)] at et
      have e := dn_w hi hl hp h0 x a4 a5
      by_cases h1 : ltK x (at0 l ((p - 1) / 2))
      · rw [if_pos h1] at e ⊢
        obtain ⟨b4, b5, q⟩ := ih ((p - 1) / 2) (l.set p (at0 l ((p - 1) / 2))) (iV ((p - 1) / 2 : Nat)) (pV (at0 l ((p - 1) / 2))) (by omega) (by rw [List.length_set]; omega) (by rw [List.length_set]; omega)
        exact ⟨b4, b5, (whC et e).trans q⟩
      · rw [if_neg h1] at e ⊢
        exact ⟨_, _, whB et e⟩
    · rw [if_neg h0]
      rw [decide_eq_false (by omega)] at et
      exact ⟨_, _, whF et⟩
omit hi in
theorem sd_lt (x : Kk) (s : Nat) : ∀ (n p : Nat) (l : List Kk), (sd x s n p l).2 ≤ p := by
  intro n; induction n with
  | zero => intro p l; exact Nat.le_refl p
  | succ n ih =>
    intro p l; unfold sd
    split
    · split
      · exact Nat.le_trans (ih _ _) (Nat.le_trans (Nat.div_le_self _ _) (Nat.sub_le _ _))
      · exact Nat.le_refl p
    · exact Nat.le_refl p
omit hi in
noncomputable def dnF (s p : Nat) (l : List Kk) : List Kk := (sd (at0 l p) s 99 p l).1.set (sd (at0 l p) s 99 p l).2 (at0 l p)
omit hi in
theorem dnF_len (s p : Nat) (l : List Kk) : (dnF s p l).length = l.length := by unfold dnF; rw [List.length_set, sd_len]
theorem dn_call {l : List Kk} (hl : l.length ≤ 99) {p s : Nat} (hp : p < l.length) {zs zp : Int} (hs : zs = s) (hz : zp = p) : bodyD 3 3 dnBody [.r i, .d (.int zs), .d (.int zp)] (hH H i l) = some (.d .none, hH H i (dnF s p l)) := by
  subst hs hz
  obtain ⟨b4, b5, e⟩ := dn_loop hi (at0 l p) s 99 p l none none (by omega) hp (by omega)
  refine bodyX rfl ((seqN (setN (opN rfl rfl (hH_it hi (by omega) hp rfl)))).trans ((seqN e).trans ((seqN (storeN rfl rfl rfl (hH_st hi ?_ ?_ rfl _))).trans rfl)))
  · rw [sd_len]; omega
  · rw [sd_len]; exact Nat.lt_of_le_of_lt (sd_lt ..) hp

/-! _siftup -/
omit hi in
noncomputable def suC (l : List Kk) (p : Nat) : Nat := if 2 * p + 2 < l.length ∧ ¬ ltK (at0 l (2 * p + 1)) (at0 l (2 * p + 2)) then 2 * p + 2 else 2 * p + 1
omit hi in
noncomputable def su : Nat → Nat → List Kk → List Kk × Nat
  | 0, p, l => (l, p)
  | n + 1, p, l => if 2 * p + 1 < l.length then su n (suC l p) (l.set p (at0 l (suC l p))) else (l, p)
noncomputable def upT : Lo → AH → Option (Bool × AH) := cmpD (icmp fun a b => decide (a < b)) (ldD 5) (ldD 2)
noncomputable def upM : Lo → AH → Option (AV × AH) := opD (iop fun a b => some (a + b)) (opD (iop fun a b => if a.natAbs < 2 ^ 30 then some (a * b) else none) (kD (.int 2)) (ldD 1)) (kD (.int 1))
noncomputable def upW : Den :=
    (seqD (setD 6 (opD (iop fun a b => some (a + b)) (ldD 5) (kD (.int 1))))
    (seqD (iteD (andD (cmpD (icmp fun a b => decide (a < b)) (ldD 6) (ldD 2)) (notD (cmpD ltO (opD itO (ldD 0) (ldD 5)) (opD itO (ldD 0) (ldD 6))))) (seqD (setD 5 (ldD 6)) doneD) doneD)
    (seqD (storeD (opD itO (ldD 0) (ldD 5)) (ldD 0) (ldD 1))
    (seqD (setD 1 (ldD 5))
    (seqD (setD 5 upM) doneD)))))
omit hi in
theorem suC_or (l : List Kk) (p : Nat) (h : 2 * p + 1 < l.length) : (suC l p = 2 * p + 1 ∨ suC l p = 2 * p + 2) ∧ suC l p < l.length := by
  unfold suC; split <;> omega
theorem up_w {l : List Kk} (hl : l.length ≤ 1000) {p n : Nat} (hp : p < l.length) (h0 : 2 * p + 1 < l.length) (s : Int) (x : Kk) (a6 : Option AV) {cz nz : Int} (hc : cz = (2 * p + 1 : Nat)) (hn : nz = l.length) :
    ∃ b6, upW [some (.r i), iV p, iV nz, iV s, pV x, iV cz, a6] (hH H i l) = some (.next, [some (.r i), iV (suC l p), iV nz, iV s, pV x, iV (2 * (suC l p) + 1), b6], hH H i (l.set p (at0 l (suC l p)))) := by
  subst hn
  refine ⟨iV (cz + 1), (seqN (setN (opN rfl rfl rfl))).trans ?_⟩
  have e1 : (iteD (andD (cmpD (icmp fun a b => decide (a < b)) (ldD 6) (ldD 2)) (notD (cmpD ltO (opD itO (ldD 0) (ldD 5)) (opD itO (ldD 0) (ldD 6))))) (seqD (setD 5 (ldD 6)) doneD) doneD) [some (.r i), iV p, iV l.length, iV s, pV x, iV cz, iV (cz + 1)] (hH H i l)
      = some (.next, [some (.r i), iV p, iV l.length, iV s, pV x, iV (suC l p), iV (cz + 1)], hH H i l) := by
    unfold suC
    by_cases h1 : 2 * p + 2 < l.length
    · have q : cmpD ltO (opD itO (ldD 0) (ldD 5)) (opD itO (ldD 0) (ldD 6)) [some (.r i), iV p, iV l.length, iV s, pV x, iV cz, iV (cz + 1)] (hH H i l) = some (decide (ltK (at0 l (2 * p + 1)) (at0 l (2 * p + 2))), hH H i l) :=
        cmpN (opN rfl rfl (hH_it hi hl h0 hc)) (opN rfl rfl (hH_it hi hl h1 (by omega))) rfl
      have t1 : andD (cmpD (icmp fun a b => decide (a < b)) (ldD 6) (ldD 2)) (notD (cmpD ltO (opD itO (ldD 0) (ldD 5)) (opD itO (ldD 0) (ldD 6)))) [some (.r i), iV p, iV l.length, iV s, pV x, iV cz, iV (cz + 1)] (hH H i l) = some (!decide (ltK (at0 l (2 * p + 1)) (at0 l (2 * p + 2))), hH H i l) :=
        (andT (cmpN rfl rfl (congrArg some (decide_eq_true (by omega))))).trans (notN q)
      by_cases h2 : ltK (at0 l (2 * p + 1)) (at0 l (2 * p + 2))
      · rw [if_neg fun h => h.2 h2, ← hc]
        rw [decide_eq_true h2] at t1
        exact (iteF t1).trans rfl
      · rw [if_pos ⟨h1, h2⟩, show ((2 * p + 2 : Nat) : Int) = cz + 1 from by omega]
        rw [decide_eq_false h2] at t1
        exact (iteT t1).trans rfl
    · rw [if_neg fun h => h1 h.1, ← hc]
      exact (iteF (andF (cmpN rfl rfl (congrArg some (decide_eq_false (by omega)))))).trans rfl
  refine (seqN e1).trans ((seqN (storeN (opN rfl rfl (hH_it hi hl (suC_or l p h0).2 rfl)) rfl rfl (hH_st hi hl hp rfl _))).trans ((seqN (setN rfl)).trans rfl))
theorem up_loop (s : Int) (x : Kk) : ∀ (n p : Nat) (l : List Kk) (a6 : Option AV), l.length ≤ n + p → p < l.length → l.length ≤ 1000 → ∀ cz nz : Int, cz = (2 * p + 1 : Nat) → nz = l.length →
    ∃ b6 cz', whileD upT upW (n + 1) [some (.r i), iV p, iV nz, iV s, pV x, iV cz, a6] (hH H i l) = some (.next, [some (.r i), iV (su n p l).2, iV nz, iV s, pV x, iV cz', b6], hH H i (su n p l).1) := by
  intro n
  induction n with
  | zero => intro p l a6 h hp; omega
  | succ n ih =>
    intro p l a6 h hp hl cz nz hc hn
    have et : upT [some (.r i), iV p, iV nz, iV s, pV x, iV cz, a6] (hH H i l) = some (decide (cz < nz), hH H i l) := rfl
    unfold su
    by_cases h0 : 2 * p + 1 < l.length
    · rw [if_pos h0]
      rw [decide_eq_true (by omega)] at et
      obtain ⟨b6, e⟩ := up_w hi hl (n := n) hp h0 s x a6 hc hn
      have hq := suC_or l p h0
      generalize suC l p = q at *
      obtain ⟨c6, cz', e'⟩ := ih q (l.set p (at0 l q)) b6 (by rw [List.length_set]; omega) (by rw [List.length_set]; omega) (by rw [List.length_set]; omega) (2 * q + 1) nz (by omega) (by rw [List.length_set]; omega)
      exact ⟨c6, cz', (whN et e).trans e'⟩
    · rw [if_neg h0]
      rw [decide_eq_false (by omega)] at et
      exact ⟨_, _, whF et⟩
omit hi in
theorem su_len : ∀ (n p : Nat) (l : List Kk), (su n p l).1.length = l.length := by
  intro n; induction n with
  | zero => intro p l; rfl
  | succ n ih =>
    intro p l; unfold su
    split
    · rw [ih, List.length_set]
    · rfl
omit hi in
theorem su_lt : ∀ (n p : Nat) (l : List Kk), p < l.length → (su n p l).2 < l.length := by
  intro n; induction n with
  | zero => intro p l h; exact h
  | succ n ih =>
    intro p l h; unfold su
    split
    · rename_i h0
      have := ih (suC l p) (l.set p (at0 l (suC l p))) (by rw [List.length_set]; exact (suC_or l p h0).2)
      rwa [List.length_set] at this
    · exact h
omit hi in
noncomputable def upF (p : Nat) (l : List Kk) : List Kk := dnF p (su 99 p l).2 ((su 99 p l).1.set (su 99 p l).2 (at0 l p))
omit hi in
theorem upF_len (p : Nat) (l : List Kk) : (upF p l).length = l.length := by unfold upF; rw [dnF_len, List.length_set, su_len]
theorem up_call {l : List Kk} (hl : l.length ≤ 99) {p : Nat} (hp : p < l.length) {z : Int} (hz : z = p) : bodyD 2 5 upBody [.r i, .d (.int z)] (hH H i l) = some (.d .none, hH H i (upF p l)) := by
  subst hz
  obtain ⟨b6, cz', e⟩ := up_loop hi p (at0 l p) 99 p l none (by omega) hp (by omega) (2 * p + 1) l.length (by omega) rfl
  have hs := su_lt 99 p l hp
  refine bodyX rfl ((seqN (setN (callN rfl (hH_len hi (by omega))))).trans ((seqN (setN rfl)).trans ((seqN (setN (opN rfl rfl (hH_it hi (by omega) hp rfl)))).trans ((seqN (setN (opN (opN rfl rfl rfl) rfl rfl))).trans ((seqN e).trans
    ((seqN (storeN rfl rfl rfl (hH_st hi ?_ ?_ rfl _))).trans ((seqN (exprN (callN rfl (dn_call hi ?_ ?_ rfl rfl)))).trans rfl)))))))
  · rw [su_len]; omega
  · rw [su_len]; exact hs
  · rw [List.length_set, su_len]; exact hl
  · rw [List.length_set, su_len]; exact hs

/-! heapreplace, heappop, heapify -/
theorem hr_call {l : List Kk} (hl : l.length ≤ 99) (h0 : 0 < l.length) (x : Kk) : bodyD 2 1 hrBody [.r i, .d (prD x)] (hH H i l) = some (.d (prD (at0 l 0)), hH H i (upF 0 (l.set 0 x))) :=
  bodyN rfl ((seqN (setN (opN rfl rfl (hH_it hi (by omega) h0 rfl)))).trans ((seqN (storeN rfl rfl rfl (hH_st hi (by omega) h0 rfl x))).trans
    ((seqN (exprN (callN rfl (up_call hi (by rw [List.length_set]; exact hl) (by rw [List.length_set]; exact h0) rfl)))).trans rfl)))
theorem hp_call {l : List Kk} (hl : l.length ≤ 98) (x : Kk) : bodyD 1 2 hpBody [.r i] (hH H i (l ++ [x])) = some (if l = [] then (.d (prD x), hH H i []) else (.d (prD (at0 l 0)), hH H i (upF 0 (l.set 0 x)))) := by
  have e0 : popO [.r i] (hH H i (l ++ [x])) = some (.d (prD x), hH H i l) := by
    unfold popO
    simp only
    rw [hH_get hi, Option.bind_some, if_pos (by simp; omega)]
    simp only [List.map_append, List.map_cons, List.map_nil, List.getLast?_append, List.getLast?_singleton, Option.some_or, Option.map_some, List.dropLast_concat, hH_set]
  have e1 : trO (.r i) (hH H i l) = some (!l.isEmpty) := by
    unfold trO
    rw [hH_as hi, Option.bind_some]
    simp only [List.length_map]
    rw [if_pos (by omega), List.isEmpty_map]
  have e2 : trD trO (ldD 0) [some (.r i), pV x, none] (hH H i l) = some (!l.isEmpty, hH H i l) := by
    unfold trD
    show ((trO (.r i) (hH H i l)).map fun b => (b, hH H i l)) = _
    rw [e1]; rfl
  cases l with
  | nil => exact bodyN rfl ((seqN (setN (by unfold methD; exact e0))).trans ((seqN (iteF e2)).trans rfl))
  | cons y l =>
    have h0 : 0 < (y :: l).length := Nat.zero_lt_succ _
    have h1 : (y :: l).length ≤ 99 := by omega
    rw [if_neg (by intro h; cases h)]
    rw [show (y :: l).isEmpty = false from rfl] at e2
    generalize y :: l = m at *
    exact bodyN rfl ((seqN (setN (by unfold methD; exact e0))).trans ((seqR ((iteT e2).trans ((seqN (setN (opN rfl rfl (hH_it hi (by omega) h0 rfl)))).trans ((seqN (storeN rfl rfl rfl (hH_st hi (by omega) h0 rfl x))).trans
      ((seqN (exprN (callN rfl (up_call hi (by rw [List.length_set]; exact h1) (by rw [List.length_set]; exact h0) rfl)))).trans rfl)))))))
omit hi in
noncomputable def hfF (l : List Kk) : List Kk := ((List.range (l.length / 2)).reverse).foldl (fun l j => upF j l) l
noncomputable def hfW : Den := seqD (upCall (ldD 0) (ldD 2)) doneD
theorem hf_loop (src : List PyData) (z : AV) : ∀ (js : List Nat) (l : List Kk) (a : Option AV), l.length ≤ 99 → (∀ j ∈ js, j < l.length) →
    ∃ b, loopD 2 hfW (src, none) (js.map fun (j : Nat) => .int j) [some (.r i), some z, a] (hH H i l) = some (.next, [some (.r i), some z, b], hH H i (js.foldl (fun l j => upF j l) l)) := by
  intro js
  induction js with
  | nil => intro l a _ _; exact ⟨a, rfl⟩
  | cons j js ih =>
    intro l a hl hj
    obtain ⟨b, e⟩ := ih (upF j l) (iV j) (by rw [upF_len]; exact hl) (fun k hk => by rw [upF_len]; exact hj k (.tail _ hk))
    refine ⟨b, ?_⟩
    have e1 : hfW [some (.r i), some z, iV j] (hH H i l) = some (.next, [some (.r i), some z, iV j], hH H i (upF j l)) :=
      (seqN (exprN (callN rfl (up_call hi hl (hj j (.head _)) rfl)))).trans rfl
    show ((hfW [some (.r i), some z, iV j] (hH H i l)).bind _) = _
    rw [e1]
    exact e
omit hi in
theorem rev_small {m : Nat} (hm : m ≤ 4) (z : Int) (hz : z = m) (fs : Lo → AH → Option (List AV × AH)) (lo : Lo) (H : AH) (e : fs lo H = some ([.d (.int z)], H)) : revD fs lo H = some (((List.range m).reverse.map fun (j : Nat) => .int j, none), H) := by
  subst hz
  unfold revD
  rw [e]
  match m, hm with
  | 0, _ => rfl
  | 1, _ => rfl
  | 2, _ => rfl
  | 3, _ => rfl
  | 4, _ => rfl
theorem hf_call {l : List Kk} (hl : l.length ≤ 9) : bodyD 1 2 hfBody [.r i] (hH H i l) = some (.d .none, hH H i (hfF l)) := by
  have e0 : Int.fdiv (l.length : Int) 2 = ((l.length / 2 : Nat) : Int) := Int.fdiv_eq_ediv_of_nonneg _ (by decide)
  have e1 := rev_small (m := l.length / 2) (by omega) _ e0 (consD (opD (iop fun a b => if b ≠ 0 ∧ b.natAbs < 1073741824 then some (Int.fdiv a b) else none) (ldD 1) (kD (.int 2))) nilD) [some (.r i), iV l.length, none] (hH H i l) rfl
  obtain ⟨b, e2⟩ := hf_loop hi ((List.range (l.length / 2)).reverse.map fun (j : Nat) => .int j) (.d (.int l.length)) ((List.range (l.length / 2)).reverse) l none (by omega) (fun j hj => by
    have := List.mem_range.mp (List.mem_reverse.mp hj); omega)
  refine bodyX rfl ((seqN (setN (callN rfl (hH_len hi (by omega))))).trans ((seqN (lo1 := [some (.r i), iV l.length, b]) (H1 := hH H i (hfF l)) ?_).trans rfl))
  show ((revD _ _ _).bind _) = _
  rw [show List.set (List.map some [AV.r i] ++ List.replicate 2 none) 1 (some (.d (.int l.length))) = [some (.r i), iV l.length, none] from rfl, e1]
  exact e2
end
/-! the heap's law -/
noncomputable def pa (c : Nat) : Nat := (c - 1) / 2
theorem pa_lt {c : Nat} (h : 0 < c) : pa c < c := by unfold pa; omega
theorem pa_ch {c p : Nat} (h : 0 < c) (e : pa c = p) : c = 2 * p + 1 ∨ c = 2 * p + 2 := by unfold pa at e; omega
theorem pa_c1 (p : Nat) : pa (2 * p + 1) = p := by unfold pa; omega
theorem pa_c2 (p : Nat) : pa (2 * p + 2) = p := by unfold pa; omega
noncomputable def leK (a b : Kk) : Prop := ¬ ltK b a
theorem leK.tr {a b c : Kk} (h : leK a b) (k : leK b c) : leK a c := by unfold leK ltK at *; omega
theorem leK.ofLt {a b : Kk} (h : ltK a b) : leK a b := by unfold leK ltK at *; omega
theorem leK.total {a b : Kk} (h : ¬ ltK a b) : leK b a := h
theorem at0_set {l : List Kk} {p q : Nat} {x : Kk} (h : p < l.length) : at0 (l.set p x) q = if q = p then x else at0 l q := by
  unfold at0
  by_cases e : q = p
  · subst e; simp [List.getD, h]
  · rw [if_neg e]; simp [List.getD, List.getElem?_set_ne (Ne.symm e)]
theorem at0_self {l : List Kk} {p : Nat} {x : Kk} (h : p < l.length) : at0 (l.set p x) p = x := by rw [at0_set h, if_pos rfl]
theorem at0_ne {l : List Kk} {p q : Nat} {x : Kk} (h : p < l.length) (e : q ≠ p) : at0 (l.set p x) q = at0 l q := by rw [at0_set h, if_neg e]
theorem set_at0 {l : List Kk} {p : Nat} : l.set p (at0 l p) = l := by
  apply List.ext_getElem?
  intro q
  by_cases e : p = q
  · subst e
    rw [List.getElem?_set_self']
    unfold at0; rw [List.getD]
    cases h : l[p]? <;> simp
  · rw [List.getElem?_set_ne e]
theorem set_mv {l : List Kk} {p q : Nat} {x : Kk} (hp : p < l.length) (hq : q < l.length) (h : q ≠ p) : ((l.set p (at0 l q)).set q x).Perm (l.set p x) := by
  have e := List.set_set_perm (as := l.set p x) (i := p) (j := q) (by rw [List.length_set]; exact hp) (by rw [List.length_set]; exact hq)
  rw [List.set_set, List.getElem_set_self, List.getElem_set_ne (Ne.symm h)] at e
  have e2 : at0 l q = l[q] := by unfold at0; rw [List.getD, List.getElem?_eq_getElem hq]; rfl
  rwa [e2]

inductive Dsc (s : Nat) : Nat → Prop
  | refl : Dsc s s
  | step {c : Nat} : 0 < c → Dsc s (pa c) → Dsc s c
theorem Dsc.le {s p : Nat} (h : Dsc s p) : s ≤ p := by
  induction h with
  | refl => exact Nat.le_refl s
  | step h _ ih => exact Nat.le_trans ih (Nat.le_of_lt (pa_lt h))
/-- the heap's order from s on -/
noncomputable def HP (l : List Kk) (s : Nat) : Prop := ∀ c, 0 < c → c < l.length → s ≤ pa c → leK (at0 l (pa c)) (at0 l c)
/-- all but at p -/
structure Hole (l : List Kk) (s p : Nat) : Prop where
  ok : ∀ c, 0 < c → c < l.length → s ≤ pa c → c ≠ p → pa c ≠ p → leK (at0 l (pa c)) (at0 l c)
  up : 0 < p → s ≤ pa p → ∀ c, 0 < c → c < l.length → pa c = p → leK (at0 l (pa p)) (at0 l c)
  lt : p < l.length
  ds : Dsc s p
theorem sd_ok (x : Kk) (s : Nat) : ∀ (n p : Nat) (l : List Kk), p ≤ n → Hole l s p → (∀ c, 0 < c → c < l.length → pa c = p → leK x (at0 l c)) →
    HP ((sd x s n p l).1.set (sd x s n p l).2 x) s ∧ ((sd x s n p l).1.set (sd x s n p l).2 x).Perm (l.set p x) := by
  have fin : ∀ (p : Nat) (l : List Kk), Hole l s p → (∀ c, 0 < c → c < l.length → pa c = p → leK x (at0 l c)) → (0 < p → s ≤ pa p → leK (at0 l (pa p)) x) → HP (l.set p x) s := by
    intro p l h hx hu c h0 hc hs
    rw [List.length_set] at hc
    by_cases e : c = p
    · subst e; rw [at0_self h.lt, at0_ne h.lt (Nat.ne_of_lt (pa_lt h0))]; exact hu h0 hs
    · rw [at0_ne h.lt e]
      by_cases e2 : pa c = p
      · rw [e2, at0_self h.lt]; exact hx c h0 hc e2
      · rw [at0_ne h.lt e2]; exact h.ok c h0 hc hs e e2
  intro n
  induction n with
  | zero =>
    intro p l hn h hx
    cases Nat.le_zero.mp hn
    exact ⟨fin 0 l h hx fun h0 => absurd h0 (Nat.lt_irrefl 0), .refl _⟩
  | succ n ih =>
    intro p l hn h hx
    unfold sd
    by_cases h0 : s < p
    · rw [if_pos h0]
      have hp0 : 0 < p := Nat.lt_of_le_of_lt (Nat.zero_le s) h0
      have hd : Dsc s (pa p) := by
        cases h.ds with
        | refl => exact absurd h0 (Nat.lt_irrefl s)
        | step _ d => exact d
      have hlt := pa_lt hp0
      show HP ((if ltK x (at0 l (pa p)) then sd x s n (pa p) (l.set p (at0 l (pa p))) else (l, p)).1.set (if ltK x (at0 l (pa p)) then sd x s n (pa p) (l.set p (at0 l (pa p))) else (l, p)).2 x) s ∧ _
      change _ ∧ ((if ltK x (at0 l (pa p)) then sd x s n (pa p) (l.set p (at0 l (pa p))) else (l, p)).1.set (if ltK x (at0 l (pa p)) then sd x s n (pa p) (l.set p (at0 l (pa p))) else (l, p)).2 x).Perm _
      have hne := Nat.ne_of_lt hlt
      by_cases h1 : ltK x (at0 l (pa p))
      · rw [if_pos h1]
        have hq : pa p < l.length := Nat.lt_trans hlt h.lt
        have par : ∀ c, 0 < c → c < l.length → c ≠ p → pa c = pa p → leK (at0 l (pa p)) (at0 l c) := fun c k0 hc e1 e2 => e2 ▸ h.ok c k0 hc (e2 ▸ hd.le) e1 (e2 ▸ hne)
        have := ih (pa p) (l.set p (at0 l (pa p))) (Nat.le_of_lt_succ (Nat.lt_of_lt_of_le hlt hn)) ⟨fun c k0 hc hs e1 e2 => ?_, fun k0 hs c k1 hc e1 => ?_, by rw [List.length_set]; exact hq, hd⟩ (fun c k0 hc e1 => ?_)
        · exact ⟨this.1, this.2.trans (set_mv h.lt hq hne)⟩
        · rw [List.length_set] at hc
          have e3 : c ≠ p := fun e => e2 (e ▸ rfl)
          rw [at0_ne h.lt e3]
          by_cases e4 : pa c = p
          · rw [e4, at0_self h.lt]; exact h.up hp0 hd.le c k0 hc e4
          · rw [at0_ne h.lt e4]; exact h.ok c k0 hc hs e3 e4
        · rw [List.length_set] at hc
          have k2 := pa_lt k0
          have u := h.ok (pa p) k0 hq hs hne (Nat.ne_of_lt (Nat.lt_trans k2 hlt))
          rw [at0_ne h.lt (Nat.ne_of_lt (Nat.lt_trans k2 hlt))]
          by_cases e3 : c = p
          · subst e3; rw [at0_self h.lt]; exact u
          · rw [at0_ne h.lt e3]; exact u.tr (par c k1 hc e3 e1)
        · rw [List.length_set] at hc
          by_cases e3 : c = p
          · subst e3; rw [at0_self h.lt]; exact .ofLt h1
          · rw [at0_ne h.lt e3]; exact (leK.ofLt h1).tr (par c k0 hc e3 e1)
      · rw [if_neg h1]
        exact ⟨fin p l h hx fun _ _ => .total h1, .refl _⟩
    · rw [if_neg h0]
      exact ⟨fin p l h hx fun k0 hs => absurd (Nat.lt_of_le_of_lt hs (pa_lt k0)) h0, .refl _⟩
theorem suC_ok (l : List Kk) (p : Nat) (h : 2 * p + 1 < l.length) : suC l p < l.length ∧ 0 < suC l p ∧ pa (suC l p) = p ∧ ∀ c, 0 < c → c < l.length → pa c = p → leK (at0 l (suC l p)) (at0 l c) := by
  unfold suC
  split
  · rename_i k
    exact ⟨k.1, Nat.succ_pos _, pa_c2 p, fun c h0 hc e => by
      rcases pa_ch h0 e with rfl | rfl
      · exact k.2
      · exact fun z => by unfold ltK at z; omega⟩
  · rename_i k
    exact ⟨h, Nat.succ_pos _, pa_c1 p, fun c h0 hc e => by
      rcases pa_ch h0 e with rfl | rfl
      · exact fun z => by unfold ltK at z; omega
      · exact .ofLt (Classical.byContradiction fun z => k ⟨hc, z⟩)⟩
theorem su_ok (x : Kk) (s : Nat) : ∀ (n p : Nat) (l : List Kk), l.length ≤ n + p → Hole l s p →
    Hole (su n p l).1 s (su n p l).2 ∧ (∀ c, 0 < c → c < (su n p l).1.length → pa c ≠ (su n p l).2) ∧ ((su n p l).1.set (su n p l).2 x).Perm (l.set p x) := by
  intro n
  induction n with
  | zero => intro p l hn h; exact absurd h.lt (Nat.not_lt.mpr (by rwa [Nat.zero_add] at hn))
  | succ n ih =>
    intro p l hn h
    unfold su
    by_cases h0 : 2 * p + 1 < l.length
    · rw [if_pos h0]
      obtain ⟨hq, q0, eq, hmin⟩ := suC_ok l p h0
      generalize suC l p = q at *
      have hpq : p < q := eq ▸ pa_lt q0
      have := ih q (l.set p (at0 l q)) (by rw [List.length_set]; clear ih hmin; omega) ⟨fun c k0 hc hs e1 e2 => ?_, fun k0 hs c k1 hc e1 => ?_, by rw [List.length_set]; exact hq, .step q0 (eq ▸ h.ds)⟩
      · exact ⟨this.1, this.2.1, this.2.2.trans (set_mv h.lt hq (Nat.ne_of_gt hpq))⟩
      · rw [List.length_set] at hc
        by_cases e3 : c = p
        · subst e3; rw [at0_self h.lt, at0_ne h.lt (Nat.ne_of_lt (pa_lt k0))]; exact h.up k0 hs q q0 hq eq
        · rw [at0_ne h.lt e3]
          by_cases e4 : pa c = p
          · rw [e4, at0_self h.lt]; exact hmin c k0 hc e4
          · rw [at0_ne h.lt e4]; exact h.ok c k0 hc hs e3 e4
      · rw [List.length_set] at hc
        have hcq : q < c := e1 ▸ pa_lt k1
        rw [eq, at0_self h.lt, at0_ne h.lt (Nat.ne_of_gt (Nat.lt_trans hpq hcq))]
        have := h.ok c k1 hc (by rw [e1]; exact Nat.le_trans h.ds.le (Nat.le_of_lt hpq)) (Nat.ne_of_gt (Nat.lt_trans hpq hcq)) (by rw [e1]; exact Nat.ne_of_gt hpq)
        rwa [e1] at this
    · rw [if_neg h0]
      refine ⟨h, fun c k0 hc e => ?_, .refl _⟩
      rcases pa_ch k0 e with rfl | rfl
      · exact h0 hc
      · exact h0 (Nat.lt_of_succ_lt hc)
theorem up_ok {s : Nat} {l : List Kk} (hl : l.length ≤ 99) (hs : s < l.length) (h : HP l (s + 1)) : HP (upF s l) s ∧ (upF s l).Perm l := by
  have h1 : Hole l s s := ⟨fun c k0 hc k1 e1 e2 => h c k0 hc (Nat.lt_of_le_of_ne k1 (Ne.symm e2)), fun k0 k1 => absurd (pa_lt k0) (Nat.not_lt.mpr k1), hs, .refl⟩
  obtain ⟨h2, h3, h4⟩ := su_ok (at0 l s) s 99 s l (Nat.le_trans hl (Nat.le_add_right _ _)) h1
  unfold upF dnF
  generalize su 99 s l = r at *
  obtain ⟨m, p⟩ := r
  simp only at h2 h3 h4 ⊢
  rw [at0_self h2.lt]
  rw [set_at0] at h4
  have hm : (m.set p (at0 l s)).length = m.length := List.length_set
  have hpm : p ≤ 99 := by
    have := h4.length_eq; have := h2.lt; rw [hm] at *; clear h3 h4 h; omega
  obtain ⟨h5, h6⟩ := sd_ok (at0 l s) s 99 p (m.set p (at0 l s)) hpm ⟨fun c k0 hc k1 e1 e2 => by
      rw [at0_ne h2.lt e1, at0_ne h2.lt e2]; exact h2.ok c k0 (hm ▸ hc) k1 e1 e2, fun k0 k1 c k2 hc e => absurd e (h3 c k2 (hm ▸ hc)), hm ▸ h2.lt, h2.ds⟩ (fun c k0 hc e => absurd e (h3 c k0 (hm ▸ hc)))
  rw [List.set_set] at h6
  exact ⟨h5, h6.trans h4⟩
theorem HP.min {l : List Kk} (h : HP l 0) : ∀ c, c < l.length → leK (at0 l 0) (at0 l c) := by
  intro c
  induction c using Nat.strongRecOn with
  | _ c ih =>
    intro hc
    rcases Nat.eq_zero_or_pos c with rfl | h0
    · exact fun z => by unfold ltK at z; omega
    · exact (ih (pa c) (pa_lt h0) (Nat.lt_trans (pa_lt h0) hc)).tr (h c h0 hc (Nat.zero_le _))
theorem HP.mem {a : Kk} {l : List Kk} (h : HP (a :: l) 0) : ∀ b ∈ l, leK a b := by
  intro b hb
  obtain ⟨c, hc, e⟩ := List.getElem_of_mem hb
  have := h.min (c + 1) (Nat.succ_lt_succ hc)
  have e2 : at0 (a :: l) (c + 1) = b := by unfold at0; rw [List.getD, List.getElem?_cons_succ, List.getElem?_eq_getElem hc, e]; rfl
  rwa [e2] at this
theorem HP.set0 {l : List Kk} (h : HP l 0) (h0 : 0 < l.length) (x : Kk) : HP (l.set 0 x) 1 := by
  intro c k0 hc k1
  rw [List.length_set] at hc
  rw [at0_ne h0 (Nat.ne_of_gt k0), at0_ne h0 (Nat.ne_of_gt k1)]
  exact h c k0 hc (Nat.zero_le _)
theorem HP.init {l : List Kk} {x : Kk} (h : HP (l ++ [x]) 0) : HP l 0 := by
  intro c k0 hc k1
  have := h c k0 (by rw [List.length_append]; exact Nat.lt_add_right _ hc) k1
  have q : ∀ d, d < l.length → at0 (l ++ [x]) d = at0 l d := fun d hd => by unfold at0; rw [List.getD, List.getD, List.getElem?_append_left hd]
  rwa [q _ hc, q _ (Nat.lt_trans (pa_lt k0) hc)] at this
theorem hf_ok {l : List Kk} (hl : l.length ≤ 99) : HP (hfF l) 0 ∧ (hfF l).Perm l := by
  have go : ∀ (n : Nat) (m : List Kk), m.length = l.length → n ≤ m.length → HP m n → HP ((List.range n).reverse.foldl (fun l j => upF j l) m) 0 ∧ ((List.range n).reverse.foldl (fun l j => upF j l) m).Perm m := by
    intro n
    induction n with
    | zero => intro m _ _ h; exact ⟨h, .refl _⟩
    | succ n ih =>
      intro m hm hn h
      obtain ⟨h1, h2⟩ := up_ok (s := n) (hm ▸ hl) hn h
      have := ih (upF n m) (h2.length_eq.trans hm) (by rw [h2.length_eq]; exact Nat.le_of_succ_le hn) h1
      rw [List.range_succ, List.reverse_append]
      exact ⟨this.1, this.2.trans h2⟩
  refine go _ l rfl (Nat.div_le_self _ _) fun c k0 hc k1 => ?_
  unfold pa at k1
  omega
/-! the words -/
noncomputable def wd : Nat → Str
  | 0 => "a" | 1 => "a/b" | 2 => ".//a/b/q\"" | 3 => "q\"" | 4 => "b/../q\"//a" | 5 => "a/../q\"/a/b/." | _ => "c/d"
noncomputable def pw : Nat → Str
  | 0 => "/a" | 1 => "/a/b" | 2 => "/a/b/q\"" | 3 => "/q\"" | 4 => "/q\"/a" | 5 => "/q\"/a/b" | 6 => "/c/d" | _ => "/c"
noncomputable def nl : Nat → List PyData
  | 0 => [.str "a"] | 1 => [.str "a", .str "b"] | 2 => [.str "a", .str "b", .str "q\""] | 3 => [.str "q\""] | 4 => [.str "q\"", .str "a"] | 5 => [.str "q\"", .str "a", .str "b"] | _ => [.str "c", .str "d"]
noncomputable def dp : Nat → Nat
  | 0 => 1 | 1 => 2 | 2 => 3 | 3 => 1 | 4 => 2 | 5 => 3 | _ => 2
noncomputable def pr : Nat → Nat
  | 1 => 0 | 2 => 1 | 4 => 3 | 5 => 4 | 0 => 8 | 3 => 8 | _ => 7
noncomputable def dw (w : Nat) : Str := if dp w = 1 then "/" else pw (pr w)
noncomputable def qu : Nat → Str
  | 0 => "/a" | 1 => "/a/b" | 2 => "/a/b/q\"\"" | 3 => "/q\"\"" | 4 => "/q\"\"/a" | 5 => "/q\"\"/a/b" | _ => "/c/d"
noncomputable def yes (w : Nat) : Str := ("257 \"" ++ qu w) ++ "\" is \"made\""
noncomputable def nope (w : Nat) : Str := ("550 \"" ++ qu w) ++ "\" has no folder"
theorem w7 {P : Nat → Prop} (h0 : P 0) (h1 : P 1) (h2 : P 2) (h3 : P 3) (h4 : P 4) (h5 : P 5) (h6 : P 6) : ∀ w, w < 7 → P w
  | 0, _ => h0 | 1, _ => h1 | 2, _ => h2 | 3, _ => h3 | 4, _ => h4 | 5, _ => h5 | 6, _ => h6
  | n + 7, h => absurd h (Nat.not_lt.mpr (Nat.le_add_left 7 n))
theorem n8 {P : Nat → Prop} (h0 : P 0) (h1 : P 1) (h2 : P 2) (h3 : P 3) (h4 : P 4) (h5 : P 5) (h6 : P 6) (h7 : P 7) (h8 : P 8) (n : Nat) (h : n ≤ 8) : P n := by
  rcases Nat.lt_or_ge n 7 with k | k
  · exact w7 h0 h1 h2 h3 h4 h5 h6 n k
  · rcases Nat.lt_or_ge 7 n with q | q
    · rw [Nat.le_antisymm h q]; exact h8
    · rw [Nat.le_antisymm q k]; exact h7
theorem dn_ev (H : AH) : ∀ w, w < 7 → bodyD 1 3 dnmP.1 [.d (.str (pw w))] H = some (.d (.str (dw w)), H) := by
  apply w7 <;> kernel_rfl
theorem re_ev (z : Option AV) (H : AH) : ∀ w, w < 7 → replD 0 "\"" "\"\"" [some (.d (.str (pw w))), z, none] H = some (.d (.str (qu w)), H) := by
  apply w7 <;> kernel_rfl
theorem ye_ev (v : AV) (z : Option AV) (H : AH) : ∀ w, w < 7 → opD (strs2 fun a b => if a.length + b.length ≤ 100000 then some (a ++ b) else none) (opD (strs2 fun a b => if a.length + b.length ≤ 100000 then some (a ++ b) else none) (kD (.str "257 \"")) (ldD 2)) (kD (.str "\" is \"made\"")) [some (.d (.str (pw w))), z, some (.d (.str (qu w)))] H = some (.d (.str (yes w)), H) := by
  apply w7 <;> kernel_rfl
theorem no_ev (v : AV) (z : Option AV) (H : AH) : ∀ w, w < 7 → opD (strs2 fun a b => if a.length + b.length ≤ 100000 then some (a ++ b) else none) (opD (strs2 fun a b => if a.length + b.length ≤ 100000 then some (a ++ b) else none) (kD (.str "550 \"")) (ldD 2)) (kD (.str "\" has no folder")) [some (.d (.str (pw w))), z, some (.d (.str (qu w)))] H = some (.d (.str (nope w)), H) := by
  apply w7 <;> kernel_rfl
theorem ra_yes (H : AH) : ∀ w, w < 7 → raiseB 1 4 paT.1 (ldD 0) [.d (.str (yes w))] H = none := by
  apply w7 <;> kernel_rfl
theorem ra_no (H : AH) : ∀ w, w < 7 → raiseB 1 4 paT.1 (ldD 0) [.d (.str (nope w))] H = some H := by
  apply w7 <;> kernel_rfl
theorem pa_ev (H : AH) : ∀ w, w < 7 → bodyD 1 4 paP.1 [.d (.str (yes w))] H = some (.d (.str (pw w)), H) := by
  apply w7 <;> kernel_rfl
theorem jn_ev (H : AH) : ∀ w, w < 7 → bodyV 3 jnP.1 [.d (.str "/"), .d (.str (wd w))] H = some (.d (.str ("/" ++ wd w)), H) := by
  apply w7 <;> kernel_rfl
theorem ln_ev (H : AH) : ∀ w, w < 7 → bodyD 1 2 lnP.1 [.d (.str (wd w))] H = some (.d (.list (nl w)), H) := by
  apply w7 <;> kernel_rfl
theorem np_ev (a b c d : List PyData) : ∀ w, w < 7 → ∀ N : AH, N.length ≤ 7 → bodyD 1 8 npP.1 [.d (.str ("/" ++ wd w))] (a :: b :: c :: d :: N) = some (.d (.str (pw w)), a :: b :: c :: d :: (N ++ [nl w])) := by
  intro w hw N hN
  match N, hN with
  | [], _ => revert w; apply w7 <;> kernel_rfl
  | [_], _ => revert w; apply w7 <;> kernel_rfl
  | [_, _], _ => revert w; apply w7 <;> kernel_rfl
  | [_, _, _], _ => revert w; apply w7 <;> kernel_rfl
  | [_, _, _, _], _ => revert w; apply w7 <;> kernel_rfl
  | [_, _, _, _, _], _ => revert w; apply w7 <;> kernel_rfl
  | [_, _, _, _, _, _], _ => revert w; apply w7 <;> kernel_rfl
  | [_, _, _, _, _, _, _], _ => revert w; apply w7 <;> kernel_rfl
noncomputable def mD (ms : List Nat) : List PyData := ms.map fun v => .str (pw v)
noncomputable def acc (w : Nat) (ms : List Nat) : Bool := dp w == 1 || ms.any fun v => v == pr w
theorem pw_eq : ∀ w, w < 7 → ∀ v, v < 7 → PyData.eqv (.str (pw v)) (.str (dw w)) = (!(dp w == 1) && (v == pr w)) := by
  apply w7 <;> (apply w7 <;> kernel_rfl)
theorem dw_eq (H : AH) : ∀ w, w < 7 → eqO false (.d (.str (dw w))) (.d (.str "/")) H = some (dp w == 1) := by
  apply w7 <;> kernel_rfl
theorem dw_dep : ∀ w, w < 7 → (PyData.str (dw w)).depth ≤ 50 := by
  apply w7 <;> decide
theorem any_acc (w : Nat) (hw : w < 7) : ∀ ms : List Nat, (∀ v ∈ ms, v < 7) → (dp w == 1 || (mD ms).any fun z => PyData.eqv z (.str (dw w))) = acc w ms
  | [], _ => rfl
  | v :: ms, h => by
    have ih := any_acc w hw ms fun u hu => h u (.tail _ hu)
    unfold acc mD at *
    rw [List.map_cons, List.any_cons, List.any_cons, pw_eq w hw v (h v (.head _))]
    cases e : (dp w == 1)
    · rw [e] at ih; simp only [Bool.false_or, Bool.not_false, Bool.true_and] at ih ⊢; rw [ih]
    · rfl
section
variable {lo lo1 : Lo} {H H1 H2 H3 : AH} {a b : Den} {f f1 f2 f3 : Lo → AH → Option (AV × AH)} {fs : Lo → AH → Option (List AV × AH)} {t t2 : Lo → AH → Option (Bool × AH)} {v w u : AV} {i : Nat} {r : Option (AF × Lo × AH)} {fl : AF}
theorem orB {x y : Bool} (h : t lo H = some (x, H)) (h2 : t2 lo H = some (y, H)) : orD t t2 lo H = some (x || y, H) := by
  unfold orD; rw [h]; cases x
  · exact h2
  · rfl
theorem seqB {x : Bool} {r1 r2 : Option (AF × Lo × AH)} (h : t lo H = some (x, H)) : iteD t a b lo H = if x then a lo H else b lo H := iteB h
end
theorem la_ev {H : AH} {w m : Nat} {ms : List Nat} (hw : w < 7) (hm : H[m]? = some (mD ms)) (h : ∀ v ∈ ms, v < 7) : bodyD 2 1 laP.1 [.d (.str (pw w)), .r m] H = some (.d (.str (if acc w ms = true then yes w else nope w)), H) := by
  have e1 : inO (.d (.str (dw w))) (.r m) H = some ((mD ms).any fun z => PyData.eqv z (.str (dw w))) := by
    unfold inO
    rw [show asD (.d (.str (dw w))) H = some (.str (dw w)) from rfl, show asD (.r m) H = some (.list (mD ms)) from by unfold asD; simp only; rw [hm]; rfl]
    simp only [Option.bind_some]
    rw [if_pos (dw_dep w hw)]
  have e2 : orD (cmpD (eqO false) (callD (bodyD 1 3 dnmP.1) (consD (ldD 0) nilD)) (kD (.str "/"))) (cmpD inO (callD (bodyD 1 3 dnmP.1) (consD (ldD 0) nilD)) (ldD 1)) [some (.d (.str (pw w))), some (.r m), some (.d (.str (qu w)))] H = _ := orB (cmpN (callN rfl (dn_ev H w hw)) rfl (dw_eq H w hw)) (cmpN (callN rfl (dn_ev H w hw)) rfl e1)
  rw [any_acc w hw ms h] at e2
  refine (congrArg (fun x => Option.bind x endD) (seqN (setN (re_ev (some (.r m)) H w hw)))).trans ?_
  cases hb : acc w ms
  · rw [hb] at e2
    exact (congrArg (fun x => Option.bind x endD) ((seqN ((iteF e2).trans rfl)).trans (seqR (retN (no_ev (.r m) (some (.r m)) H w hw))))).trans rfl
  · rw [hb] at e2
    exact (congrArg (fun x => Option.bind x endD) (seqR ((iteT e2).trans (seqR (retN (ye_ev (.r m) (some (.r m)) H w hw)))))).trans rfl

/-! one turn of the queue -/
/-- the heap in the queue's loop -/
noncomputable def ST4 (X J P : List PyData) (N : AH) (l : List Kk) (ms : List Nat) (g : List Tri) : AH := X :: J :: l.map prD :: P :: (N ++ [mD ms, g.map tri])
section
variable {X J P : List PyData} {N : AH} {l : List Kk} {ms : List Nat} {g : List Tri}
theorem st_hH (l' : List Kk) : hH (ST4 X J P N l ms g) 2 l' = ST4 X J P N l' ms g := rfl
theorem st_m : (ST4 X J P N l ms g)[4 + N.length]? = some (mD ms) := by
  unfold ST4
  rw [show 4 + N.length = N.length + 1 + 1 + 1 + 1 from Nat.add_comm _ _]
  simp only [List.getElem?_cons_succ]
  rw [List.getElem?_append_right (Nat.le_refl _), Nat.sub_self]; rfl
theorem st_g : (ST4 X J P N l ms g)[5 + N.length]? = some (g.map tri) := by
  unfold ST4
  rw [show 5 + N.length = N.length + 1 + 1 + 1 + 1 + 1 from Nat.add_comm _ _]
  simp only [List.getElem?_cons_succ]
  rw [List.getElem?_append_right (Nat.le_succ _), Nat.succ_sub (Nat.le_refl _), Nat.sub_self]; rfl
theorem st_setm (v : Nat) : (ST4 X J P N l ms g).set (4 + N.length) (mD ms ++ [.str (pw v)]) = ST4 X J P N l (ms ++ [v]) g := by
  unfold ST4
  rw [show 4 + N.length = N.length + 1 + 1 + 1 + 1 from Nat.add_comm _ _]
  simp only [List.set_cons_succ]
  rw [List.set_append_right _ _ (Nat.le_refl _), Nat.sub_self]
  unfold mD; rw [List.map_append]; rfl
theorem st_setg (t : Tri) : (ST4 X J P N l ms g).set (5 + N.length) (g.map tri ++ [tri t]) = ST4 X J P N l ms (g ++ [t]) := by
  unfold ST4
  rw [show 5 + N.length = N.length + 1 + 1 + 1 + 1 + 1 from Nat.add_comm _ _]
  simp only [List.set_cons_succ]
  rw [List.set_append_right _ _ (Nat.le_succ _), Nat.succ_sub (Nat.le_refl _), Nat.sub_self]
  rw [List.map_append]; rfl
theorem st_appm (hl : ms.length ≤ 1000) (v : Nat) : appO [.r (4 + N.length), .d (.str (pw v))] (ST4 X J P N l ms g) = some (.d .none, ST4 X J P N l (ms ++ [v]) g) := by
  show ((ST4 X J P N l ms g)[4 + N.length]?).bind _ = _
  rw [st_m, Option.bind_some, st_setm, if_pos (by unfold mD; rw [List.length_map]; exact Nat.le_trans hl (by decide))]
theorem st_appg (hl : g.length ≤ 1000) (t : Tri) : appO [.r (5 + N.length), .d (tri t)] (ST4 X J P N l ms g) = some (.d .none, ST4 X J P N l ms (g ++ [t])) := by
  show ((ST4 X J P N l ms g)[5 + N.length]?).bind _ = _
  rw [st_g, Option.bind_some, st_setg, if_pos (by rw [List.length_map]; exact Nat.le_trans hl (by decide))]
theorem eq_pr (p : Kk) (H : AH) : eqO false (.d (prD p)) (.d (prD p)) H = some true := by
  show (if (prD p).depth ≤ 50 then some (PyData.eqv (prD p) (prD p) != false) else none) = _
  rw [if_pos (show (prD p).depth ≤ 50 by unfold prD; simp [PyData.depth, PyData.depthAll]), SeqAt.eqv_refl _ rfl]; rfl
theorem ne_pr (p : Kk) (H : AH) : eqO true (.d (prD p)) (.d (prD p)) H = some false := by
  show (if (prD p).depth ≤ 50 then some (PyData.eqv (prD p) (prD p) != true) else none) = _
  rw [if_pos (show (prD p).depth ≤ 50 by unfold prD; simp [PyData.depth, PyData.depthAll]), SeqAt.eqv_refl _ rfl]; rfl
noncomputable def popF (l : List Kk) : List Kk := match l.getLast? with
  | none => []
  | some x => match l.dropLast with | [] => [] | m => upF 0 (m.set 0 x)
theorem hp_ev {H : AH} {i : Nat} (hi : i < H.length) {l : List Kk} (hl : l.length ≤ 99) (h0 : l ≠ []) : bodyD 1 2 hpBody [.r i] (hH H i l) = some (.d (prD (at0 l 0)), hH H i (popF l)) := by
  obtain ⟨m, x, rfl⟩ : ∃ m x, l = m ++ [x] := ⟨_, _, (List.dropLast_concat_getLast h0).symm⟩
  rw [List.length_append] at hl
  rw [hp_call hi (Nat.le_of_succ_le_succ hl) x]
  unfold popF
  rw [List.getLast?_append, List.getLast?_singleton, List.dropLast_concat]
  cases m with
  | nil => rfl
  | cons y m => rfl
end
noncomputable def wPop (f : Lo → AH → Option (AV × AH)) : Lo → AH → Option (AV × AH) :=
  ifD (cmpD (eqO false) (callD (bodyD 1 2 hpBody) (consD (ldD 2) nilD)) (tupD (consD (ldD 6) (consD (ldD 1) nilD))))
    (tupD (consD (ldD 6) (consD (ldD 1) (consD f nilD)))) (tupD (consD (ldD 6) (consD (ldD 1) (consD (kD (.str "none")) nilD))))
noncomputable def wGr : Den := seqD (exprD (methD appO (ldD 4) (consD (ldD 7) nilD))) (seqD (exprD (methD appO (ldD 5) (consD (wPop (ldD 7)) nilD))) doneD)
noncomputable def wGh : Den := seqD (iteD (cmpD (eqO true) (callD (bodyD 2 1 hrBody) (consD (ldD 2) (consD (tupD (consD (opD (iop fun a b => some (a + b)) (ldD 6) (opD itO (opD itO (ldD 0) (ldD 1)) (kD (.int 2)))) (consD (ldD 1) nilD))) nilD))) (tupD (consD (ldD 6) (consD (ldD 1) nilD))))
  (seqD (exprD (methD appO (ldD 5) (consD (tupD (consD (ldD 6) (consD (ldD 1) (consD (kD (.str "none")) nilD)))) nilD))) doneD) doneD) doneD
noncomputable def wTry : Den := seqD (tryD 7 (consD (callD (bodyD 2 1 laP.1) (consD (opD itO (ldD 3) (ldD 1)) (consD (ldD 4) nilD))) nilD) (bodyD 1 4 paP.1) (raiseB 1 4 paT.1 (ldD 0)) wGr wGh) doneD
noncomputable def wB : Den := seqD (unpD (tgN [6, 1]) (opD itO (ldD 2) (kD (.int 0))))
  (seqD (iteD (cmpD (icmp fun a b => decide (b < a)) (ldD 6) (kD (.int 9))) (seqD (exprD (methD appO (ldD 5) (consD (wPop (kD (.str ""))) nilD))) doneD) wTry) doneD)
noncomputable def wT : Lo → AH → Option (Bool × AH) := cmpD (eqO true) (ldD 2) (lstD nilD)
section
variable {lo lo1 : Lo} {H H1 H2 H3 : AH} {a b : Den} {f f1 f2 f3 : Lo → AH → Option (AV × AH)} {fs : Lo → AH → Option (List AV × AH)} {t t2 : Lo → AH → Option (Bool × AH)} {v w u : AV} {i : Nat} {xs : List AV}
theorem unpN {D : Lo → AV → Option Lo} (h : f lo H = some (v, H1)) (h2 : D lo v = some lo1) : unpD D f lo H = some (.next, lo1, H1) := by unfold unpD; rw [h, Option.bind_some, h2]; rfl
theorem ifT (h : t lo H = some (true, H1)) : ifD t f1 f2 lo H = f1 lo H1 := by unfold ifD; rw [h]; rfl
theorem ifF (h : t lo H = some (false, H1)) : ifD t f1 f2 lo H = f2 lo H1 := by unfold ifD; rw [h]; rfl
theorem methN {o : List AV → AH → Option (AV × AH)} {q : Option (AV × AH)} (h : f lo H = some (v, H1)) (h1 : fs lo H1 = some (xs, H2)) (h2 : o (v :: xs) H2 = q) : methD o f fs lo H = q := by unfold methD; rw [h, Option.bind_some, h1]; exact h2
theorem consN (h : f lo H = some (v, H1)) (h1 : fs lo H1 = some (xs, H2)) : consD f fs lo H = some (v :: xs, H2) := by unfold consD; rw [h, Option.bind_some, h1]; rfl
theorem tupN {l : List PyData} (h : fs lo H = some (xs, H1)) (h1 : datas xs = some l) (h2 : Nat.ble l.length 1000 = true := by rfl) : tupD fs lo H = some (.d (.tuple l), H1) := by unfold tupD; rw [h, Option.bind_some, h1, Option.bind_some, if_pos (Nat.le_of_ble_eq_true h2)]
theorem tryY {F : List AV → AH → Option (AV × AH)} {B : List AV → AH → Option AH} (h : fs lo H = some (xs, H1)) (h1 : B xs H1 = none) (h2 : F xs H1 = some (v, H2)) : tryD i fs F B a b lo H = a (lo.set i (some v)) H2 := by unfold tryD; rw [h, Option.bind_some]; simp only [h1, h2]; rfl
theorem tryN {F : List AV → AH → Option (AV × AH)} {B : List AV → AH → Option AH} (h : fs lo H = some (xs, H1)) (h1 : B xs H1 = some H2) : tryD i fs F B a b lo H = b lo H2 := by unfold tryD; rw [h, Option.bind_some]; simp only [h1]
theorem it_r {L : List PyData} {d : PyData} {k : Nat} {z : Int} (h : H[i]? = some L) (hd : L[k]? = some d) (hl : L.length ≤ 1000) (hz : z = k) : itO (.r i) (.d (.int z)) H = some (.d d) := by
  subst hz
  unfold itO
  rw [show asD (.r i) H = some (.list L) from by show (H[i]?).map PyData.list = _; rw [h]; rfl]
  have hk : k < L.length := (List.getElem?_eq_some_iff.mp hd).1
  have e : seqIndex? (k : Int) L.length = some k := by
    unfold seqIndex?; simp; omega
  simp only
  rw [if_pos (Nat.le_trans hl (by decide)), e, Option.bind_some, hd]; rfl
end

/-- the locals in the queue's loop -/
noncomputable def L7 (n : Nat) (a h t : Option AV) : Lo := [some (.r 1), a, some (.r 2), some (.r 3), some (.r (4 + n)), some (.r (5 + n)), h, t]
section
variable {X J P : List PyData} {N : AH} {l : List Kk} {ms : List Nat} {g : List Tri} {h k t : Int} {x : Str} {a0 h0 t0 : Option AV}
theorem st_top (hl : l.length ≤ 99) (h1 : l ≠ []) (e : at0 l 0 = (h, k)) : unpD (tgN [6, 1]) (opD itO (ldD 2) (kD (.int 0))) (L7 N.length a0 h0 t0) (ST4 X J P N l ms g) = some (.next, L7 N.length (iV k) (iV h) t0, ST4 X J P N l ms g) := by
  have e1 := hH_it (H := ST4 X J P N l ms g) (i := 2) (Nat.succ_le_succ (Nat.succ_le_succ (Nat.succ_le_succ (Nat.zero_le _)))) (l := l) (Nat.le_trans hl (by decide)) (p := 0) (List.length_pos_iff.mpr h1) rfl
  rw [e] at e1
  exact unpN (opN rfl rfl e1) rfl
theorem st_pop (hl : l.length ≤ 99) (h1 : l ≠ []) (e : at0 l 0 = (h, k)) (y : Option AV) {f : Lo → AH → Option (AV × AH)} (hf : f (L7 N.length (iV k) (iV h) y) (ST4 X J P N (popF l) ms g) = some (.d (.str x), ST4 X J P N (popF l) ms g)) :
    wPop f (L7 N.length (iV k) (iV h) y) (ST4 X J P N l ms g) = some (.d (tri (h, k, x)), ST4 X J P N (popF l) ms g) := by
  have e1 := hp_ev (H := ST4 X J P N l ms g) (i := 2) (Nat.succ_le_succ (Nat.succ_le_succ (Nat.succ_le_succ (Nat.zero_le _)))) hl h1
  rw [e] at e1
  exact (ifT (cmpN (callN rfl e1) rfl (eq_pr (h, k) _))).trans (tupN (consN rfl (consN rfl (consN hf rfl))) rfl)
theorem turn_A (hl : l.length ≤ 99) (h1 : l ≠ []) (e : at0 l 0 = (h, k)) (h9 : 9 < h) (hg : g.length ≤ 1000) :
    wB (L7 N.length a0 h0 t0) (ST4 X J P N l ms g) = some (.next, L7 N.length (iV k) (iV h) t0, ST4 X J P N (popF l) ms (g ++ [((h, k, "") : Tri)])) :=
  (seqN (st_top hl h1 e)).trans ((seqN ((iteT (cmpN rfl rfl (congrArg some (decide_eq_true h9)))).trans ((seqN (exprN (methN rfl (consN (st_pop hl h1 e t0 rfl) rfl) (st_appg hg (h, k, ""))))).trans rfl))).trans rfl)
theorem st_fs {w k' : Nat} (hw : w < 7) (hk : k = (k' : Int)) (hP : P[k']? = some (.str (pw w))) (hPl : P.length ≤ 1000) (hm : ∀ v ∈ ms, v < 7) (hh : Option AV) (y : Option AV) :
    consD (callD (bodyD 2 1 laP.1) (consD (opD itO (ldD 3) (ldD 1)) (consD (ldD 4) nilD))) nilD (L7 N.length (iV k) hh y) (ST4 X J P N l ms g) = some ([.d (.str (if acc w ms = true then yes w else nope w))], ST4 X J P N l ms g) :=
  consN (callN (consN (opN rfl rfl (it_r (i := 3) rfl hP hPl hk)) rfl) (la_ev hw st_m hm)) rfl
theorem turn_B {w k' : Nat} (hl : l.length ≤ 99) (h1 : l ≠ []) (e : at0 l 0 = (h, k)) (h9 : ¬ 9 < h) (hg : g.length ≤ 1000) (hw : w < 7) (hk : k = (k' : Int)) (hP : P[k']? = some (.str (pw w))) (hPl : P.length ≤ 1000) (hm : ∀ v ∈ ms, v < 7) (hml : ms.length ≤ 1000) (ha : acc w ms = true) :
    wB (L7 N.length a0 h0 t0) (ST4 X J P N l ms g) = some (.next, L7 N.length (iV k) (iV h) (some (.d (.str (pw w)))), ST4 X J P N (popF l) (ms ++ [w]) (g ++ [(h, k, pw w)])) := by
  have e1 := st_fs (X := X) (J := J) (N := N) (l := l) (g := g) hw hk hP hPl hm (iV h) t0
  rw [if_pos ha] at e1
  refine (seqN (st_top hl h1 e)).trans ((seqN ((iteF (cmpN rfl rfl (congrArg some (decide_eq_false h9)))).trans ((seqN ((tryY e1 (ra_yes _ w hw) (pa_ev _ w hw)).trans ?_)).trans rfl))).trans rfl)
  exact (seqN (exprN (methN rfl rfl (st_appm hml w)))).trans ((seqN (exprN (methN rfl (consN (st_pop hl h1 e (some (.d (.str (pw w)))) rfl) rfl) (st_appg hg (h, k, pw w))))).trans rfl)
theorem turn_C {w k' : Nat} (hl : l.length ≤ 99) (h1 : l ≠ []) (e : at0 l 0 = (h, k)) (h9 : ¬ 9 < h) (hw : w < 7) (hk : k = (k' : Int)) (hP : P[k']? = some (.str (pw w))) (hPl : P.length ≤ 1000) (hm : ∀ v ∈ ms, v < 7) (ha : acc w ms = false)
    {d : PyData} {f : Int} (hJ : J[k']? = some (.tuple [d, .int f, .int t])) (hJl : J.length ≤ 1000) :
    wB (L7 N.length a0 h0 t0) (ST4 X J P N l ms g) = some (.next, L7 N.length (iV k) (iV h) t0, ST4 X J P N (upF 0 (l.set 0 (h + t, k))) ms g) := by
  have e1 := st_fs (X := X) (J := J) (N := N) (l := l) (g := g) hw hk hP hPl hm (iV h) t0
  rw [if_neg (by rw [ha]; decide)] at e1
  have e2 := hr_call (H := ST4 X J P N l ms g) (i := 2) (Nat.succ_le_succ (Nat.succ_le_succ (Nat.succ_le_succ (Nat.zero_le _)))) hl (List.length_pos_iff.mpr h1) (h + t, k)
  rw [e] at e2
  refine (seqN (st_top hl h1 e)).trans ((seqN ((iteF (cmpN rfl rfl (congrArg some (decide_eq_false h9)))).trans ((seqN ((tryN e1 (ra_no _ w hw)).trans ?_)).trans rfl))).trans rfl)
  exact (seqN ((iteF (cmpN (callN (consN rfl (consN (tupN (consN (opN rfl (opN (opN rfl rfl (it_r (i := 1) rfl hJ hJl hk)) rfl rfl) rfl) (consN rfl rfl)) rfl) rfl)) e2) rfl (ne_pr (h, k) _))).trans rfl)).trans rfl
theorem st_test (hl : l.length ≤ 99) (a : Option AV) : wT (L7 N.length a h0 t0) (ST4 X J P N l ms g) = some (!l.isEmpty, ST4 X J P N l ms g) := by
  have hd : ∀ l : List Kk, PyData.depthAll (l.map prD) ≤ 1 := by
    intro l
    induction l with
    | nil => exact Nat.zero_le _
    | cons p l ih => simp [PyData.depthAll, PyData.depth, prD]; exact Nat.max_le.mpr ⟨Nat.le_refl 1, ih⟩
  refine cmpN rfl rfl ?_
  show (if (PyData.list (l.map prD)).depth ≤ 50 then some (PyData.eqv (.list (l.map prD)) (.list []) != true) else none) = _
  rw [if_pos (by have := hd l; simp only [PyData.depth]; omega)]
  cases l <;> rfl
end
/-! the plain law: the queue's log is what is due -/
noncomputable def hourOf (f t b : Int) : Int := f + max 0 (Int.fdiv (b - f + t - 1) t) * t
theorem hour_all {f t : Int} (b : Int) (h1 : 1 ≤ t) (h3 : t ≤ 3) : (∃ c : Nat, hourOf f t b = f + c * t) ∧ b ≤ hourOf f t b ∧ (∀ c : Nat, b ≤ f + c * t → hourOf f t b ≤ f + c * t) ∧ (∀ c : Nat, f + c * t < hourOf f t b → f + c * t + t ≤ hourOf f t b) := by
  have e : t = 1 ∨ t = 2 ∨ t = 3 := by omega
  clear h1 h3
  unfold hourOf
  rcases e with rfl | rfl | rfl
  · rw [Int.fdiv_eq_ediv_of_nonneg _ (by decide)]
    exact ⟨⟨(max 0 ((b - f + 1 - 1) / 1)).toNat, by omega⟩, by omega, fun c h => by omega, fun c h => by omega⟩
  · rw [Int.fdiv_eq_ediv_of_nonneg _ (by decide)]
    exact ⟨⟨(max 0 ((b - f + 2 - 1) / 2)).toNat, by omega⟩, by omega, fun c h => by omega, fun c h => by omega⟩
  · rw [Int.fdiv_eq_ediv_of_nonneg _ (by decide)]
    exact ⟨⟨(max 0 ((b - f + 3 - 1) / 3)).toNat, by omega⟩, by omega, fun c h => by omega, fun c h => by omega⟩

/-- the jobs -/
structure Jb where
  n : Nat
  w : Nat → Nat
  f : Nat → Int
  t : Nat → Int
structure Jb.Ok (j : Jb) : Prop where
  w7 : ∀ i, i < j.n → j.w i < 7
  f0 : ∀ i, i < j.n → 0 ≤ j.f i
  t1 : ∀ i, i < j.n → 1 ≤ j.t i
  t3 : ∀ i, i < j.n → j.t i ≤ 3
  n8 : j.n ≤ 8
/-- the jobs that open the way -/
noncomputable def Jb.ab (j : Jb) (D : Nat → Int) (k i : Nat) : Prop := i < j.n ∧ j.w i = pr (j.w k) ∧ D i < 10
noncomputable def Jb.bnd (j : Jb) (D : Nat → Int) (k : Nat) (b : Int) : Prop :=
  (dp (j.w k) = 1 ∧ b = 0) ∨ (dp (j.w k) ≠ 1 ∧ (∀ i, ¬ j.ab D k i) ∧ b = 10) ∨ (dp (j.w k) ≠ 1 ∧ ∃ i, j.ab D k i ∧ (∀ i', j.ab D k i' → leK (D i, i) (D i', i')) ∧ b = D i + if k ≤ i then 1 else 0)
noncomputable def Jb.due (j : Jb) (D : Nat → Int) : Prop := ∀ k, k < j.n → ∃ b, j.bnd D k b ∧ D k = hourOf (j.f k) (j.t k) b
noncomputable def Jb.T (j : Jb) (D : Nat → Int) (i : Nat) : Tri := (D i, (i : Int), if D i < 10 then pw (j.w i) else "")

theorem pop_ok {a : Kk} {l : List Kk} (hl : (a :: l).length ≤ 99) (h : HP (a :: l) 0) : HP (popF (a :: l)) 0 ∧ (popF (a :: l)).Perm l := by
  rcases List.eq_nil_or_concat l with rfl | ⟨m, x, rfl⟩
  · exact ⟨fun c _ hc => absurd hc (Nat.not_lt_zero c), .refl _⟩
  · rw [List.concat_eq_append, ← List.cons_append] at *
    have e : popF ((a :: m) ++ [x]) = upF 0 (x :: m) := by
      unfold popF
      rw [List.getLast?_append, List.getLast?_singleton, List.dropLast_concat]; rfl
    rw [e]
    have h1 := h.init.set0 (Nat.zero_lt_succ _) x
    obtain ⟨h2, h3⟩ := up_ok (s := 0) (l := x :: m) (by simp at hl ⊢; omega) (Nat.zero_lt_succ _) h1
    exact ⟨h2, h3.trans (List.perm_append_singleton x m).symm⟩
theorem rep_ok {a x : Kk} {l : List Kk} (hl : (a :: l).length ≤ 99) (h : HP (a :: l) 0) : HP (upF 0 (x :: l)) 0 ∧ (upF 0 (x :: l)).Perm (x :: l) :=
  up_ok (s := 0) (l := x :: l) hl (Nat.zero_lt_succ _) (h.set0 (Nat.zero_lt_succ _) x)

/-- the queue's state -/
structure Inv (j : Jb) (D : Nat → Int) (l : List Kk) (ms : List Nat) (is : List Nat) : Prop where
  hp : HP l 0
  el : ∀ p ∈ l, ∃ i c : Nat, p = (j.f i + c * j.t i, (i : Int)) ∧ i < j.n ∧ j.f i + c * j.t i ≤ D i
  pm : (l.map (·.2.toNat) ++ is).Perm (List.range j.n)
  mm : ∀ v, v ∈ ms ↔ ∃ i ∈ is, D i < 10 ∧ j.w i = v
  so : (is.map (j.T D)).Pairwise fun a b => ltK (key a) (key b)
  lt : ∀ i ∈ is, ∀ p ∈ l, ltK (D i, (i : Int)) p
  ml : ms.length ≤ is.length
theorem ltK.tr {a b c : Kk} (h : ltK a b) (k : ltK b c) : ltK a c := by unfold ltK at *; omega
theorem leK.ne {a b : Kk} (h : leK a b) (k : a.2 ≠ b.2) : ltK a b := by unfold leK ltK at *; omega
theorem Inv.ix {j : Jb} {D : Nat → Int} {l : List Kk} {ms is : List Nat} (v : Inv j D l ms is) : ∀ i, i < j.n → i ∈ is ∨ ∃ p ∈ l, p.2.toNat = i := by
  intro i hi
  rcases List.mem_append.mp (v.pm.mem_iff.mpr (List.mem_range.mpr hi)) with h | h
  · obtain ⟨p, hp, e⟩ := List.mem_map.mp h; exact .inr ⟨p, hp, e⟩
  · exact .inl h
theorem Inv.isn {j : Jb} {D : Nat → Int} {l : List Kk} {ms is : List Nat} (v : Inv j D l ms is) : ∀ i ∈ is, i < j.n := fun i hi =>
  List.mem_range.mp (v.pm.mem_iff.mp (List.mem_append_right _ hi))
theorem Inv.len {j : Jb} {D : Nat → Int} {l : List Kk} {ms is : List Nat} (v : Inv j D l ms is) : l.length + is.length = j.n := by
  have := v.pm.length_eq
  rwa [List.length_append, List.length_map, List.length_range] at this

/-- whether a job is told now -/
theorem inv_turn {j : Jb} {D : Nat → Int} {l : List Kk} {ms is : List Nat} {i c : Nat} (ok : j.Ok) (du : j.due D) (v : Inv j D ((j.f i + c * j.t i, (i : Int)) :: l) ms is) (hi : i < j.n) (hD : j.f i + c * j.t i ≤ D i) :
    (9 < j.f i + c * j.t i → D i = j.f i + c * j.t i) ∧ (acc (j.w i) ms = true → D i = j.f i + c * j.t i) ∧ (j.f i + c * j.t i ≤ 9 → acc (j.w i) ms = false → j.f i + c * j.t i + j.t i ≤ D i) := by
  obtain ⟨b, hb, e⟩ := du i hi
  obtain ⟨_, hbD, h3, h4⟩ := hour_all (f := j.f i) b (ok.t1 i hi) (ok.t3 i hi)
  rw [← e] at hbD h3 h4
  have h3' := h3 c
  have h4' := h4 c
  have ab_in : ∀ i', j.ab D i i' → (acc (j.w i) ms = true ∧ ltK (D i', (i' : Int)) (j.f i + c * j.t i, (i : Int))) ∨ (i' ∉ is ∧ ltK (j.f i + c * j.t i, (i : Int)) (D i', (i' : Int)) ∨ i' = i) := by
    intro i' ha
    by_cases hm : i' ∈ is
    · refine .inl ⟨?_, v.lt i' hm _ (.head _)⟩
      unfold acc
      rw [Bool.or_eq_true]
      refine .inr (List.any_eq_true.mpr ⟨j.w i', (v.mm _).mpr ⟨i', hm, ha.2.2, rfl⟩, ?_⟩)
      rw [ha.2.1]; exact beq_self_eq_true _
    · right
      by_cases e3 : i' = i
      · exact .inr e3
      refine .inl ⟨hm, ?_⟩
      rcases v.ix i' ha.1 with h | ⟨p, hp, e2⟩
      · exact absurd h hm
      · obtain ⟨i2, c2, rfl, hi2, hD2⟩ := v.el p hp
        cases (show i2 = i' from e2)
        rcases List.mem_cons.mp hp with h | h
        · exact absurd (Int.ofNat_inj.mp (congrArg Prod.snd h)) e3
        · have := (v.hp.mem _ h).ne (fun z => e3 (Int.ofNat_inj.mp z).symm)
          unfold ltK at this ⊢; clear h3 h4 h3' h4' hb hbD; simp only at this ⊢; omega
  have prn : ∀ w, w < 7 → pr w ≠ w := by decide
  have self : ¬ j.ab D i i := fun h => prn _ (ok.w7 i hi) h.2.1.symm
  have accd : dp (j.w i) = 1 → acc (j.w i) ms = true := fun h => by unfold acc; rw [h]; rfl
  have h0 : 0 ≤ j.f i + c * j.t i := Int.add_nonneg (ok.f0 i hi) (Int.mul_nonneg (Int.natCast_nonneg c) (Int.le_trans (by decide) (ok.t1 i hi)))
  generalize j.f i + c * j.t i = h at *
  rcases hb with ⟨h1, rfl⟩ | ⟨h1, h2, rfl⟩ | ⟨h1, i', h2, hmin, rfl⟩
  · -- depth 1: due at once
    have e0 : D i = h := Int.le_antisymm (h3' h0) hD
    exact ⟨fun _ => e0, fun _ => e0, fun _ k => by rw [accd h1] at k; cases k⟩
  · refine ⟨fun k => Int.le_antisymm (h3' k) hD, fun k => ?_, fun k _ => h4' (Int.lt_of_lt_of_le (Int.lt_add_one_of_le k) hbD)⟩
    unfold acc at k
    rw [Bool.or_eq_true] at k
    rcases k with k | k
    · exact absurd (eq_of_beq k) h1
    · obtain ⟨u, hu, e1⟩ := List.any_eq_true.mp k
      obtain ⟨i', hi', e2, e3⟩ := (v.mm _).mp hu
      exact absurd ⟨v.isn i' hi', e3.trans (eq_of_beq e1), e2⟩ (h2 i')
  · refine ⟨fun k => Int.le_antisymm (h3' ?_) hD, fun k => Int.le_antisymm (h3' ?_) hD, fun k k2 => h4' ?_⟩
    · have := h2.2.2
      split <;> omega
    · unfold acc at k
      rw [Bool.or_eq_true] at k
      rcases k with k | k
      · exact absurd (eq_of_beq k) h1
      · obtain ⟨u, hu, e1⟩ := List.any_eq_true.mp k
        obtain ⟨i2, hi2, e2, e3⟩ := (v.mm _).mp hu
        have q1 := v.lt i2 hi2 _ (.head _)
        have q2 := hmin i2 ⟨v.isn i2 hi2, e3.trans (eq_of_beq e1), e2⟩
        unfold leK ltK at q1 q2
        simp only at q1 q2
        clear ab_in h3 h4 h3' h4' hbD du
        split <;> omega
    · rcases ab_in i' h2 with q | q | rfl
      · rw [k2] at q; cases q.1
      · have q := q.2
        unfold ltK at q
        simp only at q
        refine Int.lt_of_lt_of_le ?_ hbD
        clear ab_in h3 h4 h3' h4' hbD du
        split <;> omega
      · exact absurd h2 self
section
variable {j : Jb} {D : Nat → Int} {r : List Kk} {ms is ms' : List Nat} {i : Nat} {h : Int}
theorem Inv.pop (v : Inv j D ((h, (i : Int)) :: r) ms is) (e : D i = h) (hl : r.length ≤ 90) (hm : ∀ u, u ∈ ms' ↔ u ∈ ms ∨ (D i < 10 ∧ j.w i = u)) (hml : ms'.length ≤ ms.length + 1) :
    Inv j D (popF ((h, (i : Int)) :: r)) ms' (is ++ [i]) := by
  obtain ⟨h1, h2⟩ := pop_ok (Nat.succ_le_of_lt (Nat.lt_of_le_of_lt hl (by decide))) v.hp
  have hnd : ((((h, (i : Int)) :: r).map (·.2.toNat)) ++ is).Nodup := (v.pm.nodup_iff).mpr List.nodup_range
  have hp2 : (r.map (·.2.toNat) ++ (is ++ [i])).Perm (i :: (r.map (·.2.toNat) ++ is)) := by
    rw [← List.append_assoc]
    exact List.perm_append_singleton i _
  refine ⟨h1, fun p hp => v.el p (.tail _ (h2.mem_iff.mp hp)), ((h2.map _).append_right _).trans (hp2.trans v.pm), fun u => ?_, ?_, fun i' hi' p hp => ?_, ?_⟩
  · rw [hm u, v.mm u]
    constructor
    · rintro (⟨i', k1, k2⟩ | k)
      · exact ⟨i', List.mem_append_left _ k1, k2⟩
      · exact ⟨i, List.mem_append_right _ (.head _), k⟩
    · rintro ⟨i', k1, k2⟩
      rcases List.mem_append.mp k1 with k | k
      · exact .inl ⟨i', k, k2⟩
      · cases List.mem_singleton.mp k; exact .inr k2
  · rw [List.map_append]
    refine List.pairwise_append.mpr ⟨v.so, List.pairwise_singleton _ _, fun a ha b hb => ?_⟩
    obtain ⟨i', k1, rfl⟩ := List.mem_map.mp ha
    cases List.mem_singleton.mp hb
    have := v.lt i' k1 _ (.head _)
    rw [← e] at this
    exact this
  · have hp' := h2.mem_iff.mp hp
    rcases List.mem_append.mp hi' with k | k
    · exact v.lt i' k p (.tail _ hp')
    · cases List.mem_singleton.mp k
      rw [e]
      refine (v.hp.mem p hp').ne fun z => ?_
      have := (List.nodup_cons.mp hnd).1
      exact this (List.mem_append_left _ (List.mem_map.mpr ⟨p, hp', by rw [← z]⟩))
  · rw [List.length_append]
    exact Nat.le_trans hml (Nat.succ_le_succ v.ml)
theorem Inv.rep {c : Nat} (v : Inv j D ((j.f i + c * j.t i, (i : Int)) :: r) ms is) (hi : i < j.n) (ht : 1 ≤ j.t i) (e : j.f i + c * j.t i + j.t i ≤ D i) (hl : r.length ≤ 90) :
    Inv j D (upF 0 ((j.f i + c * j.t i + j.t i, (i : Int)) :: r)) ms is := by
  obtain ⟨h1, h2⟩ := rep_ok (x := (j.f i + c * j.t i + j.t i, (i : Int))) (Nat.succ_le_of_lt (Nat.lt_of_le_of_lt hl (by decide))) v.hp
  have e0 : j.f i + c * j.t i + j.t i = j.f i + ((c + 1 : Nat) : Int) * j.t i := by
    rw [Int.natCast_add, Int.add_mul, Int.add_assoc]; congr 2; exact (Int.one_mul _).symm
  refine ⟨h1, fun p hp => ?_, ((h2.map _).append_right _).trans v.pm, v.mm, v.so, fun i' hi' p hp => ?_, v.ml⟩
  · rcases List.mem_cons.mp (h2.mem_iff.mp hp) with rfl | k
    · exact ⟨i, c + 1, by rw [e0], hi, by rw [← e0]; exact e⟩
    · exact v.el p (.tail _ k)
  · rcases List.mem_cons.mp (h2.mem_iff.mp hp) with rfl | k
    · refine (v.lt i' hi' _ (.head _)).tr (.inl ?_)
      simp only
      clear e e0 h1 h2 v hp
      omega
    · exact v.lt i' hi' p (.tail _ k)
noncomputable def mu (l : List Kk) : Nat := (l.map fun p => (10 - p.1).toNat + 1).sum
theorem mu_perm {l m : List Kk} (h : l.Perm m) : mu l = mu m := (h.map _).sum_nat
theorem mu_cons (p : Kk) (l : List Kk) : mu (p :: l) = (10 - p.1).toNat + 1 + mu l := by unfold mu; rw [List.map_cons, List.sum_cons]
end

noncomputable def Jb.J (j : Jb) : List PyData := (List.range j.n).map fun i => .tuple [.str (wd (j.w i)), .int (j.f i), .int (j.t i)]
noncomputable def Jb.P (j : Jb) : List PyData := (List.range j.n).map fun i => .str (pw (j.w i))
theorem queue {j : Jb} {D : Nat → Int} (ok : j.Ok) (du : j.due D) (X : List PyData) (N : AH) : ∀ (fuel : Nat) (l : List Kk) (ms is : List Nat) (a0 h0 t0 : Option AV), Inv j D l ms is → mu l < fuel →
    ∃ a1 h1 t1 ms' is', whileD wT wB fuel (L7 N.length a0 h0 t0) (ST4 X j.J j.P N l ms (is.map (j.T D))) = some (.next, L7 N.length a1 h1 t1, ST4 X j.J j.P N [] ms' (is'.map (j.T D))) ∧ Inv j D [] ms' is' := by
  intro fuel
  induction fuel with
  | zero => intro l ms is a0 h0 t0 v h; exact absurd h (Nat.not_lt_zero _)
  | succ n ih =>
    intro l ms is a0 h0 t0 v hmu
    have hlen := v.len
    have n8 := ok.n8
    have hl8 : l.length ≤ 8 := Nat.le_trans (Nat.le_add_right _ _) (hlen ▸ n8)
    have hi8 : is.length ≤ 8 := Nat.le_trans (Nat.le_add_left _ _) (hlen ▸ n8)
    have hm8 : ms.length ≤ 8 := Nat.le_trans v.ml hi8
    have et := st_test (X := X) (J := j.J) (P := j.P) (N := N) (l := l) (ms := ms) (g := is.map (j.T D)) (h0 := h0) (t0 := t0) (Nat.le_trans hl8 (by decide)) a0
    cases l with
    | nil => exact ⟨_, _, _, ms, is, whF et, v⟩
    | cons p r =>
      obtain ⟨i, c, rfl, hi, hD⟩ := v.el p (.head _)
      obtain ⟨tA, tB, tC⟩ := inv_turn ok du v hi hD
      have hr : r.length ≤ 90 := Nat.le_trans (Nat.le_of_succ_le hl8) (by decide)
      have hl99 : ((j.f i + c * j.t i, (i : Int)) :: r).length ≤ 99 := Nat.le_trans hl8 (by decide)
      have hg : (is.map (j.T D)).length ≤ 1000 := by rw [List.length_map]; exact Nat.le_trans hi8 (by decide)
      have hP : j.P[i]? = some (.str (pw (j.w i))) := by unfold Jb.P; rw [List.getElem?_map, List.getElem?_range hi]; rfl
      have hJ : j.J[i]? = some (.tuple [.str (wd (j.w i)), .int (j.f i), .int (j.t i)]) := by unfold Jb.J; rw [List.getElem?_map, List.getElem?_range hi]; rfl
      have hPl : j.P.length ≤ 1000 := by unfold Jb.P; rw [List.length_map, List.length_range]; exact Nat.le_trans n8 (by decide)
      have hJl : j.J.length ≤ 1000 := by unfold Jb.J; rw [List.length_map, List.length_range]; exact Nat.le_trans n8 (by decide)
      have hm7 : ∀ u ∈ ms, u < 7 := fun u hu => by
        obtain ⟨i', k1, _, k3⟩ := (v.mm u).mp hu
        exact k3 ▸ ok.w7 i' (v.isn i' k1)
      have ht := ok.t1 i hi
      have hc : (j.f i + c * j.t i, (i : Int)) :: r ≠ [] := fun h => by cases h
      have hpop : mu (popF ((j.f i + c * j.t i, (i : Int)) :: r)) < n := by
        rw [mu_cons] at hmu
        rw [mu_perm (pop_ok hl99 v.hp).2]
        exact Nat.lt_of_lt_of_le (Nat.lt_add_of_pos_left (Nat.succ_pos _)) (Nat.le_of_lt_succ hmu)
      by_cases h9 : 9 < j.f i + c * j.t i
      · have e := tA h9
        have w := turn_A (X := X) (J := j.J) (P := j.P) (N := N) (ms := ms) (a0 := a0) (h0 := h0) (t0 := t0) hl99 hc rfl h9 hg
        have v' := v.pop (ms' := ms) e hr (fun u => ⟨.inl, fun k => k.elim id fun k => absurd k.1 (by rw [e]; exact Int.not_lt.mpr h9)⟩) (Nat.le_succ _)
        obtain ⟨a1, h1, t1, ms', is', q, vq⟩ := ih _ _ _ (iV i) (iV (j.f i + c * j.t i)) t0 v' hpop
        rw [List.map_append, List.map_cons, List.map_nil, show j.T D i = (j.f i + c * j.t i, (i : Int), ("" : Str)) from by unfold Jb.T; rw [e, if_neg (show ¬ (j.f i + c * j.t i < 10) from Int.not_lt.mpr h9)]] at q
        exact ⟨a1, h1, t1, ms', is', (whN et w).trans q, vq⟩
      · cases ha : acc (j.w i) ms with
        | true =>
          have e := tB ha
          have w := turn_B (X := X) (J := j.J) (P := j.P) (N := N) (ms := ms) (a0 := a0) (h0 := h0) (t0 := t0) hl99 hc rfl h9 hg (ok.w7 i hi) rfl hP hPl hm7 (Nat.le_trans hm8 (by decide)) ha
          have h10 : D i < 10 := by rw [e]; exact Int.lt_add_one_of_le (Int.not_lt.mp h9)
          have v' := v.pop (ms' := ms ++ [j.w i]) e hr (fun u => by
            rw [List.mem_append, List.mem_singleton]
            exact ⟨fun k => k.imp id fun k => ⟨h10, k.symm⟩, fun k => k.imp id fun k => k.2.symm⟩) (by rw [List.length_append]; exact Nat.le_refl _)
          obtain ⟨a1, h1, t1, ms', is', q, vq⟩ := ih _ _ _ (iV i) (iV (j.f i + c * j.t i)) (some (.d (.str (pw (j.w i))))) v' hpop
          rw [List.map_append, List.map_cons, List.map_nil, show j.T D i = (j.f i + c * j.t i, (i : Int), pw (j.w i)) from by unfold Jb.T; rw [if_pos h10, e]] at q
          exact ⟨a1, h1, t1, ms', is', (whN et w).trans q, vq⟩
        | false =>
          have w := turn_C (X := X) (J := j.J) (P := j.P) (N := N) (l := (j.f i + c * j.t i, (i : Int)) :: r) (ms := ms) (g := is.map (j.T D)) (a0 := a0) (h0 := h0) (t0 := t0) hl99 hc rfl h9 (ok.w7 i hi) rfl hP hPl hm7 ha hJ hJl
          have v' := v.rep hi ht (tC (Int.not_lt.mp h9) ha) hr
          have hmu' : mu (upF 0 ((j.f i + c * j.t i + j.t i, (i : Int)) :: r)) < n := by
            rw [mu_cons] at hmu
            rw [mu_perm (rep_ok hl99 v.hp).2, mu_cons]
            simp only at hmu ⊢
            generalize j.f i + c * j.t i = z at h9 hmu ⊢
            generalize j.t i = y at ht ⊢
            clear tA tB tC v v' et w ih hP hJ hD
            omega
          obtain ⟨a1, h1, t1, ms', is', q, vq⟩ := ih _ _ _ (iV i) (iV (j.f i + c * j.t i)) t0 v' hmu'
          exact ⟨a1, h1, t1, ms', is', (whN et w).trans q, vq⟩
noncomputable def Jb.j1 (j : Jb) (i : Nat) : PyData := .tuple [.str (wd (j.w i)), .int (j.f i), .int (j.t i)]
noncomputable def Jb.l0 (j : Jb) : List Kk := (List.range j.n).reverse.map fun (i : Nat) => (j.f i, (i : Int))
noncomputable def negD (f : Lo → AH → Option (AV × AH)) : Lo → AH → Option (AV × AH) := fun lo H => (f lo H).bind fun p => match p.1 with | .d (.int i) => some (.d (.int (-i)), p.2) | _ => none
noncomputable def wHeap : Lo → AH → Option (AV × AH) := compD (rngD (consD (opD (iop fun a b => some (a - b)) (callD lenO (consD (ldD 0) nilD)) (kD (.int 1))) (consD (negD (kD (.int 1))) (consD (negD (kD (.int 1))) nilD))))
  [0] 1 (tg1 1) tNo (tupD (consD (opD itO (opD itO (ldD 0) (ldD 1)) (kD (.int 1))) (consD (ldD 1) nilD)))
theorem heap_ev (j : Jb) (X : List PyData) (hn : j.n ≤ 8) : wHeap [some (.r 1), none, none, none, none, none, none, none] [X, j.J] = some (.r 2, [X, j.J, j.l0.map prD]) := by
  unfold Jb.J Jb.l0
  generalize j.n = n at hn
  revert n
  apply n8 <;> kernel_rfl
noncomputable def wPath : Lo → AH → Option (AV × AH) := callD (bodyD 1 8 npP.1) (consD (callD (bodyV 3 jnP.1) (consD (kD (.str "/")) (consD (opD itO (ldD 0) (kD (.int 0))) nilD))) nilD)
theorem appN {H : AH} {i : Nat} {l : List PyData} {x : PyData} (h : H[i]? = some l) (hl : l.length ≤ 100000) : appO [.r i, .d x] H = some (.d .none, H.set i (l ++ [x])) := by
  unfold appO; simp only; rw [h, Option.bind_some, if_pos hl]
theorem path_ev {j : Jb} (ok : j.Ok) (X J : List PyData) (L : List PyData) : ∀ (is : List Nat) (P : List PyData) (N : AH) (z : Option AV), (∀ i ∈ is, i < j.n) → N.length + is.length ≤ 8 → P.length ≤ N.length →
    cloopD 3 (tg1 0) tNo wPath (J, some 1) (is.map j.j1) [z] (X :: J :: L :: P :: N) = some (X :: J :: L :: (P ++ is.map fun i => .str (pw (j.w i))) :: (N ++ is.map fun i => nl (j.w i))) := by
  intro is
  induction is with
  | nil => intro P N z _ _ _; simp [cloopD]
  | cons i is ih =>
    intro P N z hi hN hP
    have hw := ok.w7 i (hi i (.head _))
    have hN' : N.length ≤ 7 := by rw [List.length_cons] at hN; omega
    have e1 : wPath [some (.d (j.j1 i))] (X :: J :: L :: P :: N) = some (.d (.str (pw (j.w i))), X :: J :: L :: P :: (N ++ [nl (j.w i)])) :=
      callN (consN (callN (consN rfl (consN (opN rfl rfl rfl) rfl)) (jn_ev _ _ hw)) rfl) (np_ev X J L P _ hw N hN')
    have e2 : appO [.r 3, .d (.str (pw (j.w i)))] (X :: J :: L :: P :: (N ++ [nl (j.w i)])) = some (.d .none, X :: J :: L :: (P ++ [.str (pw (j.w i))]) :: (N ++ [nl (j.w i)])) :=
      appN (i := 3) rfl (Nat.le_trans hP (Nat.le_trans hN' (by decide)))
    rw [List.map_cons, cloopD]
    rw [show tg1 0 [z] (.d (j.j1 i)) = some [some (.d (j.j1 i))] from rfl, Option.bind_some, show tNo [some (.d (j.j1 i))] (X :: J :: L :: P :: N) = some (true, X :: J :: L :: P :: N) from rfl, Option.bind_some, if_pos rfl, e1, Option.bind_some, e2, Option.bind_some]
    have e3 := ih (P ++ [.str (pw (j.w i))]) (N ++ [nl (j.w i)]) (some (.d (j.j1 i))) (fun k hk => hi k (.tail _ hk)) (by rw [List.length_append, List.length_singleton]; rw [List.length_cons] at hN; omega) (by rw [List.length_append, List.length_append]; exact Nat.succ_le_succ hP)
    unfold guardD
    simp only
    rw [if_pos (show (X :: J :: L :: (P ++ [.str (pw (j.w i))]) :: (N ++ [nl (j.w i)]))[1]? = some J from rfl), e3]
    simp [List.append_assoc]
theorem init_inv {j : Jb} {D : Nat → Int} (ok : j.Ok) (du : j.due D) : Inv j D (hfF j.l0) [] [] ∧ mu (hfF j.l0) < 200 := by
  have hlen : j.l0.length = j.n := by unfold Jb.l0; rw [List.length_map, List.length_reverse, List.length_range]
  obtain ⟨h1, h2⟩ := hf_ok (l := j.l0) (by rw [hlen]; exact Nat.le_trans ok.n8 (by decide))
  have hmem : ∀ p ∈ j.l0, ∃ i, i < j.n ∧ p = (j.f i, (i : Int)) := fun p hp => by
    obtain ⟨i, hi, e⟩ := List.mem_map.mp hp
    exact ⟨i, List.mem_range.mp (List.mem_reverse.mp hi), e.symm⟩
  refine ⟨⟨h1, fun p hp => ?_, ?_, fun v => ⟨fun h => (nomatch h), fun ⟨i, hi, _⟩ => (nomatch hi)⟩, .nil, fun i hi => (nomatch hi), Nat.le_refl _⟩, ?_⟩
  · obtain ⟨i, hi, rfl⟩ := hmem p (h2.mem_iff.mp hp)
    obtain ⟨b, _, e⟩ := du i hi
    obtain ⟨⟨c, q⟩, _⟩ := hour_all (f := j.f i) b (ok.t1 i hi) (ok.t3 i hi)
    have h0 : j.f i + ((0 : Nat) : Int) * j.t i = j.f i := by rw [Int.natCast_zero, Int.zero_mul, Int.add_zero]
    refine ⟨i, 0, by rw [h0], hi, ?_⟩
    rw [h0, e, q]
    exact Int.le_add_of_nonneg_right (Int.mul_nonneg (Int.natCast_nonneg c) (Int.le_trans (by decide) (ok.t1 i hi)))
  · rw [List.append_nil]
    refine (h2.map _).trans ?_
    unfold Jb.l0
    rw [List.map_map]
    refine .trans (.of_eq ?_) (List.reverse_perm (List.range j.n))
    exact (List.map_congr_left fun i _ => rfl).trans (List.map_id _)
  · rw [mu_perm h2]
    have go : ∀ l : List Kk, (∀ p ∈ l, 0 ≤ p.1) → mu l ≤ 11 * l.length := by
      intro l
      induction l with
      | nil => intro _; exact Nat.zero_le _
      | cons p l ih =>
        intro h
        rw [mu_cons]
        have a := ih fun q hq => h q (.tail _ hq)
        have b := h p (.head _)
        simp only [List.length_cons]
        omega
    have := go j.l0 fun p hp => by
      obtain ⟨i, hi, rfl⟩ := hmem p hp
      exact ok.f0 i hi
    rw [hlen] at this
    have := ok.n8
    omega
theorem lw_ev {j : Jb} {D : Nat → Int} (ok : j.Ok) (du : j.due D) (X : List PyData) : ∃ is ms N, bodyD 1 7 lwP.1 [.r 1] [X, j.J] = some (.r (5 + N.length), ST4 X j.J j.P N [] ms (is.map (j.T D))) ∧ Inv j D [] ms is := by
  obtain ⟨v, hmu⟩ := init_inv ok du
  have hlen : j.l0.length = j.n := by unfold Jb.l0; rw [List.length_map, List.length_reverse, List.length_range]
  have e2 := hf_call (H := [X, j.J, []]) (i := 2) (show 2 < 3 from by decide) (l := j.l0) (by rw [hlen]; exact Nat.le_succ_of_le ok.n8)
  have e3 := path_ev ok X j.J ((hfF j.l0).map prD) (List.range j.n) [] [] none (fun i hi => List.mem_range.mp hi) (by rw [List.length_range]; exact Nat.le_trans (by rw [List.length_nil, Nat.zero_add]; exact Nat.le_refl _) ok.n8) (Nat.le_refl _)
  obtain ⟨a1, h1, t1, ms, is, e6, v'⟩ := queue ok du X ((List.range j.n).map fun i => nl (j.w i)) 200 (hfF j.l0) [] [] none none none v hmu
  refine ⟨is, ms, (List.range j.n).map fun i => nl (j.w i), ?_, v'⟩
  rw [List.nil_append, List.nil_append] at e3
  generalize hN : (List.range j.n).map (fun i => nl (j.w i)) = N at *
  have e3' : compD (itD (ldD 0)) [] 1 (tg1 0) tNo wPath [some (.r 1), none, some (.r 2), none, none, none, none, none] [X, j.J, (hfF j.l0).map prD] = some (.r 3, X :: j.J :: (hfF j.l0).map prD :: j.P :: N) := by
    show ((cloopD 3 (tg1 0) tNo wPath (j.J, some 1) j.J [none] (X :: j.J :: (hfF j.l0).map prD :: [] :: [])).map fun H' => (AV.r 3, H')) = _
    rw [show cloopD 3 (tg1 0) tNo wPath (j.J, some 1) j.J [none] (X :: j.J :: (hfF j.l0).map prD :: [] :: []) = _ from e3]; rfl
  have e4 : ∀ (k : Nat) (lo : Lo) (H : AH), setD k (trkD nilD) lo H = some (.next, lo.set k (some (.r H.length)), H ++ [[]]) := fun _ _ _ => rfl
  refine bodyN rfl ((seqN (setN (heap_ev j X ok.n8))).trans ((seqN (exprN (callN rfl e2))).trans ((seqN (setN e3')).trans ((seqN (e4 4 _ _)).trans ((seqN (e4 5 _ _)).trans ((seqN (lo1 := L7 N.length a1 h1 t1) (H1 := ST4 X j.J j.P N [] ms (is.map (j.T D))) ?_).trans rfl))))))
  refine Eq.trans ?_ e6
  have ea : ∀ A : AH, (X :: j.J :: (hfF j.l0).map prD :: j.P :: N) ++ [[]] ++ [[]] = ST4 X j.J j.P N (hfF j.l0) [] [] := fun _ => by
    unfold ST4; simp [mD]
  rw [ea []]
  have el : ((X :: j.J :: (hfF j.l0).map prD :: j.P :: N) ++ [[]]).length = 5 + N.length := by simp; omega
  have el2 : (X :: j.J :: (hfF j.l0).map prD :: j.P :: N).length = 4 + N.length := by simp; omega
  rw [el, el2]
  rfl
/-! when each job is due -/
noncomputable def Jb.abB (j : Jb) (D : Nat → Int) (k i : Nat) : Bool := decide (D i < 10) && (!(dp (j.w k) == 1) && (j.w i == pr (j.w k)))
noncomputable def Jb.abL (j : Jb) (D : Nat → Int) (k : Nat) (is : List Nat) : List Kk := (is.filter (j.abB D k)).map fun (i : Nat) => (D i, (i : Int))
noncomputable def minB (k : Nat) : List Kk → Int
  | [] => 10
  | p :: r => (minP p r).1 + if (k : Int) ≤ (minP p r).2 then 1 else 0
noncomputable def Jb.bo (j : Jb) (D : Nat → Int) (k : Nat) (is : List Nat) : Int := if dp (j.w k) = 1 then 0 else minB k (j.abL D k is)
theorem minP_ok : ∀ (r : List Kk) (p : Kk), minP p r ∈ p :: r ∧ ∀ q ∈ p :: r, leK (minP p r) q
  | [], p => ⟨.head _, fun q hq => by rw [List.mem_singleton.mp hq]; exact fun z => by unfold minP ltK at z; omega⟩
  | x :: r, p => by
    unfold minP
    split
    · rename_i h
      obtain ⟨h1, h2⟩ := minP_ok r x
      refine ⟨.tail _ h1, fun q hq => ?_⟩
      rcases List.mem_cons.mp hq with rfl | hq
      · exact (h2 x (.head _)).tr (.ofLt h)
      · exact h2 q hq
    · rename_i h
      obtain ⟨h1, h2⟩ := minP_ok r p
      refine ⟨?_, fun q hq => ?_⟩
      · rcases List.mem_cons.mp h1 with e | h1
        · rw [e]; exact .head _
        · exact .tail _ (.tail _ h1)
      · rcases List.mem_cons.mp hq with rfl | hq
        · exact h2 q (.head _)
        · rcases List.mem_cons.mp hq with rfl | hq
          · exact (h2 p (.head _)).tr h
          · exact h2 q (.tail _ hq)
section
variable {j : Jb} {D D' : Nat → Int} {k : Nat} {b b' : Int}
theorem abB_iff {i : Nat} : j.abB D k i = true ↔ D i < 10 ∧ dp (j.w k) ≠ 1 ∧ j.w i = pr (j.w k) := by
  unfold Jb.abB; simp
theorem bo_bnd {is : List Nat} (hi : ∀ i ∈ is, i < j.n) (hr : ∀ i, i < j.n → dp (j.w k) ≠ 1 → j.w i = pr (j.w k) → i ∈ is) : j.bnd D k (j.bo D k is) := by
  unfold Jb.bo Jb.bnd
  by_cases h1 : dp (j.w k) = 1
  · exact .inl ⟨h1, if_pos h1⟩
  rw [if_neg h1]
  have mem : ∀ q, q ∈ j.abL D k is ↔ ∃ i : Nat, j.ab D k i ∧ q = (D i, (i : Int)) := by
    intro q
    unfold Jb.abL Jb.ab
    rw [List.mem_map]
    constructor
    · rintro ⟨i, h, rfl⟩
      obtain ⟨h2, h3⟩ := List.mem_filter.mp h
      obtain ⟨h4, _, h5⟩ := abB_iff.mp h3
      exact ⟨i, ⟨hi i h2, h5, h4⟩, rfl⟩
    · rintro ⟨i, ⟨h2, h3, h4⟩, rfl⟩
      exact ⟨i, List.mem_filter.mpr ⟨hr i h2 h1 h3, abB_iff.mpr ⟨h4, h1, h3⟩⟩, rfl⟩
  cases e : j.abL D k is with
  | nil =>
    rw [e] at mem
    exact .inr (.inl ⟨h1, fun i h => (nomatch (mem _).mpr ⟨i, h, rfl⟩), rfl⟩)
  | cons p r =>
    rw [e] at mem
    obtain ⟨h2, h3⟩ := minP_ok r p
    obtain ⟨i, h4, h5⟩ := (mem _).mp h2
    refine .inr (.inr ⟨h1, i, h4, fun i' h6 => h5 ▸ h3 _ ((mem _).mpr ⟨i', h6, rfl⟩), ?_⟩)
    show (minP p r).1 + (if (k : Int) ≤ (minP p r).2 then 1 else 0) = _
    rw [h5]
    simp only [Int.ofNat_le]
theorem bnd_uniq (h : j.bnd D k b) (h' : j.bnd D k b') : b = b' := by
  rcases h with ⟨h1, rfl⟩ | ⟨h1, h2, rfl⟩ | ⟨h1, i, h2, h3, rfl⟩ <;> rcases h' with ⟨k1, rfl⟩ | ⟨k1, k2, rfl⟩ | ⟨k1, i', k2, k3, rfl⟩
  · rfl
  · exact absurd h1 k1
  · exact absurd h1 k1
  · exact absurd k1 h1
  · rfl
  · exact absurd k2 (h2 i')
  · exact absurd k1 h1
  · exact absurd h2 (k2 i)
  · have e : i = i' := by
      have q1 := h3 i' k2
      have q2 := k3 i h2
      unfold leK ltK at q1 q2
      clear h1 h2 h3 k1 k2 k3
      simp only at q1 q2
      omega
    subst e; rfl
theorem bo_congr (h : ∀ i, i < j.n → dp (j.w k) ≠ 1 → j.w i = pr (j.w k) → D i = D' i) : j.bo D k (List.range j.n) = j.bo D' k (List.range j.n) := by
  unfold Jb.bo
  by_cases h1 : dp (j.w k) = 1
  · rw [if_pos h1, if_pos h1]
  rw [if_neg h1, if_neg h1]
  unfold Jb.abL
  have e : (List.range j.n).filter (j.abB D k) = (List.range j.n).filter (j.abB D' k) := by
    refine List.filter_congr fun i hi => ?_
    unfold Jb.abB
    by_cases e : j.w i = pr (j.w k)
    · rw [h i (List.mem_range.mp hi) h1 e]
    · rw [beq_eq_false_iff_ne.mpr e]; simp
  rw [e]
  congr 1
  refine List.map_congr_left fun i hi => ?_
  obtain ⟨h2, h3⟩ := List.mem_filter.mp hi
  rw [h i (List.mem_range.mp h2) h1 (abB_iff.mp h3).2.2]
end
noncomputable def Jb.Dn (j : Jb) : Nat → Nat → Int
  | 0, _ => 0
  | m + 1, k => hourOf (j.f k) (j.t k) (j.bo (j.Dn m) k (List.range j.n))
theorem pr_dp : ∀ w, w < 7 → ∀ v, v < 7 → dp w ≠ 1 → v = pr w → dp v < dp w := by decide
theorem dp_13 : ∀ w, w < 7 → 1 ≤ dp w ∧ dp w < 4 := by decide
theorem Dn_fix {j : Jb} (ok : j.Ok) : ∀ (m k : Nat), k < j.n → dp (j.w k) ≤ m → j.Dn m k = j.Dn (m + 1) k := by
  intro m
  induction m with
  | zero => intro k hk h; exact absurd h (Nat.not_le.mpr (dp_13 _ (ok.w7 k hk)).1)
  | succ m ih =>
    intro k hk h
    show hourOf _ _ _ = hourOf _ _ _
    rw [bo_congr fun i hi h1 h2 => ih i hi (Nat.le_of_lt_succ (Nat.lt_of_lt_of_le (pr_dp _ (ok.w7 k hk) _ (ok.w7 i hi) h1 h2) h))]
/-- the hour of each job -/
noncomputable def Jb.D (j : Jb) : Nat → Int := j.Dn 3
theorem D_bo {j : Jb} (ok : j.Ok) {k : Nat} (hk : k < j.n) : j.D k = hourOf (j.f k) (j.t k) (j.bo j.D k (List.range j.n)) :=
  Dn_fix ok 3 k hk (Nat.le_of_lt_succ (dp_13 _ (ok.w7 k hk)).2)
theorem D_due {j : Jb} (ok : j.Ok) : j.due j.D := fun k hk => ⟨_, bo_bnd (fun i hi => List.mem_range.mp hi) (fun i hi _ _ => List.mem_range.mpr hi), D_bo ok hk⟩
theorem D_is {j : Jb} (ok : j.Ok) {k : Nat} (hk : k < j.n) {is : List Nat} (hi : ∀ i ∈ is, i < j.n) (hr : ∀ i, i < j.n → dp (j.w i) < dp (j.w k) → i ∈ is) : j.D k = hourOf (j.f k) (j.t k) (j.bo j.D k is) := by
  rw [bnd_uniq (bo_bnd hi fun i h1 h2 h3 => hr i h1 (pr_dp _ (ok.w7 k hk) _ (ok.w7 i h1) h2 h3)) (bo_bnd (fun i hi => List.mem_range.mp hi) (fun i hi _ _ => List.mem_range.mpr hi))]
  exact D_bo ok hk
theorem bo_le {j : Jb} {D : Nat → Int} {k : Nat} {is : List Nat} : j.bo D k is ≤ 11 := by
  unfold Jb.bo
  split
  · decide
  · unfold minB
    split
    · decide
    · rename_i p r e
      have h := (minP_ok r p).1
      rw [← e] at h
      obtain ⟨i, h2, h3⟩ := List.mem_map.mp h
      have h4 := (abB_iff.mp (List.mem_filter.mp h2).2).1
      rw [← h3]
      simp only
      clear h h2 h3 e
      split <;> omega
section
variable {lo lo1 : Lo} {H H1 H2 H3 : AH} {f : Lo → AH → Option (AV × AH)} {fs : Lo → AH → Option (List AV × AH)} {t : Lo → AH → Option (Bool × AH)} {v w u : AV} {i : Nat} {xs : List AV} {T : Lo → AV → Option Lo} {src : Src} {d x : PyData} {r l : List PyData}
theorem guard_ok {α : Type} {y : Option α} (h : okG src H) : guardD src H y = y := by
  obtain ⟨l, gi⟩ := src
  cases gi with
  | none => rfl
  | some i => show (open Classical in if H[i]? = some l then y else none) = y; exact if_pos (h i rfl)
theorem cl_yes (h1 : T lo (.d d) = some lo1) (h2 : t lo1 H = some (true, H)) (h3 : f lo1 H = some (.d x, H1)) (h4 : H1[i]? = some l) (h5 : l.length ≤ 100000) (h6 : okG src (H1.set i (l ++ [x]))) :
    cloopD i T t f src (d :: r) lo H = cloopD i T t f src r lo1 (H1.set i (l ++ [x])) := by
  rw [cloopD, h1, Option.bind_some, h2, Option.bind_some, if_pos rfl, h3, Option.bind_some, appN h4 h5, Option.bind_some]
  exact guard_ok h6
theorem cl_no (h1 : T lo (.d d) = some lo1) (h2 : t lo1 H = some (false, H)) (h6 : okG src H) : cloopD i T t f src (d :: r) lo H = cloopD i T t f src r lo1 H := by
  rw [cloopD, h1, Option.bind_some, h2, Option.bind_some]
  exact guard_ok h6
theorem slN {fi fj : Option (Lo → AH → Option (AV × AH))} {a b : Option Int} (h : f lo H = some (v, H1)) (h1 : partD fi lo H1 = some (a, H2)) (h2 : partD fj lo H2 = some (b, H3)) (h3 : slO v a b H3 = some u) : slD f fi fj lo H = some (u, H3) := by
  unfold slD; rw [h, Option.bind_some, h1, Option.bind_some, h2, Option.bind_some, h3]; rfl
end

noncomputable def jp : Nat → Str
  | 0 => "" | 1 => "a" | 2 => "a/b" | 3 => "" | 4 => "q\"" | 5 => "q\"/a" | _ => "c"
noncomputable def jw : Nat → Str
  | 0 => "a" | 1 => "a/b" | 2 => "a/b/q\"" | 3 => "q\"" | 4 => "q\"/a" | 5 => "q\"/a/b" | _ => "c/d"
noncomputable abbrev catO : AV → AV → AH → Option AV := strs2 fun a b => if a.length + b.length ≤ 100000 then some (a ++ b) else none
theorem par_sl (H : AH) : ∀ w, w < 7 → slO (.d (.list (nl w))) none (some (-1)) H = some (.d (.list (nl w).dropLast)) := by apply w7 <;> kernel_rfl
theorem par_jn (H : AH) : ∀ w, w < 7 → joinO [.d (.str "/"), .d (.list (nl w).dropLast)] H = some (.d (.str (jp w)), H) := by apply w7 <;> kernel_rfl
theorem par_ct (H : AH) : ∀ w, w < 7 → catO (.d (.str "/")) (.d (.str (jp w))) H = some (.d (.str (dw w))) := by apply w7 <;> kernel_rfl
theorem ful_jn (H : AH) : ∀ w, w < 7 → joinO [.d (.str "/"), .d (.list (nl w))] H = some (.d (.str (jw w)), H) := by apply w7 <;> kernel_rfl
theorem ful_ct (H : AH) : ∀ w, w < 7 → catO (.d (.str "/")) (.d (.str (jw w))) H = some (.d (.str (pw w))) := by apply w7 <;> kernel_rfl
theorem len_ev (H : AH) : ∀ w, w < 7 → lenO [.d (.list (nl w))] H = some (.d (.int (dp w)), H) := by apply w7 <;> kernel_rfl
theorem emp_eq : ∀ w, w < 7 → PyData.eqv (.str "") (.str (dw w)) = false := by apply w7 <;> kernel_rfl

noncomputable def aT : Lo → AH → Option (Bool × AH) := cmpD (eqO false) (ldD 4) (opD catO (kD (.str "/")) (methD joinO (kD (.str "/")) (consD (slD (opD itO (ldD 1) (ldD 0)) none (some (negD (kD (.int 1))))) nilD)))
noncomputable def aE : Lo → AH → Option (AV × AH) := tupD (consD (ldD 2) (consD (ldD 3) nilD))
noncomputable def Jb.N (j : Jb) : List PyData := (List.range j.n).map fun i => .list (nl (j.w i))
/-- the heap in _law_due -/
noncomputable def DH (H : AH) (M G : List PyData) (R : AH) : AH := H ++ (M :: G :: R)
section
variable {H R : AH} {M G A : List PyData} {j : Jb} {D : Nat → Int} {k : Nat}
theorem dh_get0 {i : Nat} (h : i < H.length) : (DH H M G R)[i]? = H[i]? := List.getElem?_append_left h
theorem dh_get1 : (DH H M G R)[H.length]? = some M := by unfold DH; rw [List.getElem?_append_right (Nat.le_refl _), Nat.sub_self]; rfl
theorem dh_get2 : (DH H M G R)[H.length + 1]? = some G := by unfold DH; rw [List.getElem?_append_right (Nat.le_succ _), Nat.succ_sub (Nat.le_refl _), Nat.sub_self]; rfl
theorem dh_len : (DH H M G R).length = H.length + 2 + R.length := by unfold DH; rw [List.length_append, List.length_cons, List.length_cons]; omega
theorem dh_add (x : List PyData) : DH H M G R ++ [x] = DH H M G (R ++ [x]) := by unfold DH; rw [List.append_assoc]; rfl
theorem dh_get3 {q : Nat} (hq : q = H.length + 2 + R.length) : (DH H M G (R ++ [A]))[q]? = some A := by
  rw [← dh_add, hq, ← dh_len (M := M) (G := G), List.getElem?_append_right (Nat.le_refl _), Nat.sub_self]; rfl
theorem dh_set3 {q : Nat} (hq : q = H.length + 2 + R.length) (x : List PyData) : (DH H M G (R ++ [A])).set q x = DH H M G (R ++ [x]) := by
  rw [← dh_add, ← dh_add, hq, ← dh_len (M := M) (G := G), List.set_append_right _ _ (Nat.le_refl _), Nat.sub_self]; rfl
theorem dh_set2 (x : List PyData) : (DH H M G R).set (H.length + 1) x = DH H M x R := by
  unfold DH; rw [List.set_append_right _ _ (Nat.le_succ _), Nat.succ_sub (Nat.le_refl _), Nat.sub_self]; rfl
theorem told_eq (ok : j.Ok) {i : Nat} (hi : i < j.n) (hk : k < j.n) (H : AH) : eqO false (.d (.str (j.T D i).2.2)) (.d (.str (dw (j.w k)))) H = some (j.abB D k i) := by
  show (if (PyData.str (j.T D i).2.2).depth ≤ 50 then some (PyData.eqv (.str (j.T D i).2.2) (.str (dw (j.w k))) != false) else none) = _
  rw [if_pos (show (PyData.str (j.T D i).2.2).depth ≤ 50 from by simp [PyData.depth])]
  unfold Jb.T Jb.abB
  by_cases h : D i < 10
  · rw [if_pos h, pw_eq _ (ok.w7 k hk) _ (ok.w7 i hi), decide_eq_true h]; simp
  · rw [if_neg h, emp_eq _ (ok.w7 k hk), decide_eq_false h]; rfl
theorem nm_item (ok : j.Ok) (hk : k < j.n) {q : Nat} {H : AH} (h : H[q]? = some j.N) {z : Int} (hz : z = k) : itO (.r q) (.d (.int z)) H = some (.d (.list (nl (j.w k)))) :=
  it_r h (by unfold Jb.N; rw [List.getElem?_map, List.getElem?_range hk]; rfl) (by unfold Jb.N; rw [List.length_map, List.length_range]; exact Nat.le_trans ok.n8 (by decide)) hz
theorem aT_ev (ok : j.Ok) {i : Nat} (hi : i < j.n) (hk : k < j.n) : aT [iV k, some (.r H.length), iV (D i), iV i, some (.d (.str (j.T D i).2.2))] (DH H j.N G R) = some (j.abB D k i, DH H j.N G R) :=
  cmpN rfl (opN rfl (methN rfl (consN (slN (opN rfl rfl (nm_item ok hk dh_get1 rfl)) rfl rfl (par_sl _ _ (ok.w7 k hk))) rfl) (par_jn _ _ (ok.w7 k hk))) (par_ct _ _ (ok.w7 k hk))) (told_eq ok hi hk _)
theorem above_ev (ok : j.Ok) (hk : k < j.n) {q : Nat} (hq : q = H.length + 2 + R.length) : ∀ (is : List Nat) (A : List Kk) (z1 z2 z3 : Option AV), (∀ i ∈ is, i < j.n) → A.length + is.length ≤ 1000 →
    cloopD q (tgN [2, 3, 4]) aT aE (G, some (H.length + 1)) (is.map fun i => tri (j.T D i)) [iV k, some (.r H.length), z1, z2, z3] (DH H j.N G (R ++ [A.map prD])) = some (DH H j.N G (R ++ [(A ++ j.abL D k is).map prD])) := by
  intro is
  induction is with
  | nil => intro A z1 z2 z3 _ _; rw [show j.abL D k [] = [] from rfl, List.append_nil]; rfl
  | cons i is ih =>
    intro A z1 z2 z3 hi hl
    have hi0 := hi i (.head _)
    rw [List.length_cons] at hl
    have e1 := aT_ev (D := D) (H := H) (G := G) (R := R ++ [A.map prD]) ok hi0 hk
    have eT : tgN [2, 3, 4] [iV k, some (.r H.length), z1, z2, z3] (.d (tri (j.T D i))) = some [iV k, some (.r H.length), iV (D i), iV i, some (.d (.str (j.T D i).2.2))] := rfl
    have eab : j.abL D k (i :: is) = if j.abB D k i = true then (D i, (i : Int)) :: j.abL D k is else j.abL D k is := by
      unfold Jb.abL; rw [List.filter_cons]; split <;> rfl
    rw [List.map_cons, eab]
    cases hb : j.abB D k i with
    | false =>
      rw [hb] at e1
      rw [cl_no eT e1 (fun n hn => by cases hn; exact dh_get2), if_neg (by decide)]
      exact ih A _ _ _ (fun n hn => hi n (.tail _ hn)) (by omega)
    | true =>
      rw [hb] at e1
      have e3 : (A.map prD) ++ [prD (D i, (i : Int))] = (A ++ [(D i, (i : Int))]).map prD := by rw [List.map_append]; rfl
      rw [cl_yes (x := prD (D i, (i : Int))) eT e1 rfl (dh_get3 hq) (by rw [List.length_map]; omega) (fun n hn => by cases hn; rw [dh_set3 hq]; exact dh_get2), dh_set3 hq, e3, if_pos rfl]
      have := ih (A ++ [(D i, (i : Int))]) (iV (D i)) (iV i) (some (.d (.str (j.T D i).2.2))) (fun n hn => hi n (.tail _ hn)) (by rw [List.length_append, List.length_singleton]; omega)
      rw [List.append_assoc] at this
      exact this
end
theorem depth_pr : ∀ l : List Kk, (PyData.list (l.map prD)).depth ≤ 50 := by
  have hd : ∀ l : List Kk, PyData.depthAll (l.map prD) ≤ 1 := by
    intro l
    induction l with
    | nil => exact Nat.zero_le _
    | cons p l ih => simp [PyData.depthAll, PyData.depth, prD]; exact Nat.max_le.mpr ⟨Nat.le_refl 1, ih⟩
  intro l
  have := hd l
  simp only [PyData.depth]; omega
theorem pairs_map : ∀ l : List Kk, pairs (l.map prD) = some l
  | [] => rfl
  | (a, b) :: l => by
    show (pairs (l.map prD)).map ((a, b) :: ·) = _
    rw [pairs_map l]; rfl
noncomputable def mD1 (z : Int) : Lo → AH → Option (AV × AH) := opD itO (callD minO (consD (ldD 6) nilD)) (kD (.int z))
noncomputable def bD : Den := iteD (cmpD (eqO false) (ldD 3) (kD (.int 1))) (seqD (setD 7 (kD (.int 0))) doneD)
  (seqD (iteD (cmpD (eqO true) (ldD 6) (lstD nilD)) (seqD (setD 7 (opD (iop fun a b => some (a + b)) (mD1 0) (ifD (cmpD (icmp fun a b => decide (a ≤ b)) (ldD 4) (mD1 1)) (kD (.int 1)) (kD (.int 0))))) doneD) doneD) doneD)
/-- the locals of _law_due -/
noncomputable def L9 (p : Nat) (d k a h b f t : Option AV) : Lo := [some (.r 1), some (.r p), some (.r (p + 1)), d, k, a, h, b, f, t]
section
variable {H : AH} {p q : Nat} {L : List Kk} {a5 a6 a7 a8 a9 : Option AV} {k d : Nat}
theorem as_r {H : AH} {q : Nat} {l : List PyData} (h : H[q]? = some l) : asD (.r q) H = some (.list l) := by
  show (H[q]?).map PyData.list = _
  rw [h]; rfl
theorem min_ev {x : Kk} (h : H[q]? = some ((x :: L).map prD)) (hl : (x :: L).length ≤ 1000) : minO [.r q] H = some (.d (prD (minP x L)), H) := by
  unfold minO
  simp only
  rw [as_r h, Option.bind_some]
  simp only
  rw [pairs_map, Option.bind_some]
  simp only
  rw [if_pos (by rw [List.length_map]; exact hl)]
theorem bound_ev (h : H[q]? = some (L.map prD)) (hl : L.length ≤ 1000) : bD (L9 p (iV d) (iV k) a5 (some (.r q)) (iV 10) a8 a9) H = some (.next, L9 p (iV d) (iV k) a5 (some (.r q)) (iV (if d = 1 then 0 else minB k L)) a8 a9, H) := by
  have e1 : cmpD (eqO false) (ldD 3) (kD (.int 1)) (L9 p (iV d) (iV k) a5 (some (.r q)) (iV 10) a8 a9) H = some (decide (d = 1), H) := by
    refine cmpN rfl rfl ?_
    show some (((d : Int) == 1) != false) = _
    by_cases e : d = 1
    · subst e; rfl
    · rw [decide_eq_false e, beq_eq_false_iff_ne.mpr (by omega)]; rfl
  by_cases e : d = 1
  · rw [decide_eq_true e] at e1
    rw [if_pos e]
    exact (iteT e1).trans rfl
  · rw [decide_eq_false e] at e1
    rw [if_neg e]
    refine (iteF e1).trans ?_
    have e2 : cmpD (eqO true) (ldD 6) (lstD nilD) (L9 p (iV d) (iV k) a5 (some (.r q)) (iV 10) a8 a9) H = some (!L.isEmpty, H) := by
      refine cmpN rfl rfl ?_
      unfold eqO
      rw [as_r h, Option.bind_some, show asD (.d (.list [])) H = some (.list []) from rfl, Option.bind_some, if_pos (depth_pr L)]
      cases L <;> rfl
    cases L with
    | nil => exact (seqN (iteF e2)).trans rfl
    | cons x L =>
      have hm := min_ev h hl
      have m1 : ∀ z v, itO (.d (prD (minP x L))) (.d (.int z)) H = some v → mD1 z (L9 p (iV d) (iV k) a5 (some (.r q)) (iV 10) a8 a9) H = some (v, H) := fun z v e => opN (callN rfl hm) rfl e
      have e3 : ifD (cmpD (icmp fun a b => decide (a ≤ b)) (ldD 4) (mD1 1)) (kD (.int 1)) (kD (.int 0)) (L9 p (iV d) (iV k) a5 (some (.r q)) (iV 10) a8 a9) H = some (.d (.int (if (k : Int) ≤ (minP x L).2 then 1 else 0)), H) := by
        by_cases hk : (k : Int) ≤ (minP x L).2
        · rw [if_pos hk]; exact (ifT (cmpN rfl (m1 1 _ rfl) (congrArg some (decide_eq_true hk)))).trans rfl
        · rw [if_neg hk]; exact (ifF (cmpN rfl (m1 1 _ rfl) (congrArg some (decide_eq_false hk)))).trans rfl
      exact (seqN ((iteT e2).trans ((seqN (setN (opN (m1 0 _ rfl) e3 rfl))).trans rfl))).trans rfl
end
noncomputable def hD1 : Lo → AH → Option (AV × AH) := opD (iop fun a b => some (a + b)) (ldD 8) (opD (iop fun a b => if a.natAbs < 2 ^ 30 then some (a * b) else none)
  (callD maxO (consD (kD (.int 0)) (consD (opD (iop fun a b => if b ≠ 0 ∧ b.natAbs < 1073741824 then some (Int.fdiv a b) else none)
    (opD (iop fun a b => some (a - b)) (opD (iop fun a b => some (a + b)) (opD (iop fun a b => some (a - b)) (ldD 7) (ldD 8)) (ldD 9)) (kD (.int 1))) (ldD 9)) nilD))) (ldD 9))
theorem hour_ev {H : AH} {p : Nat} {d k a5 a6 : Option AV} {b f t : Int} (h1 : 1 ≤ t) (h3 : t ≤ 3) (h0 : 0 ≤ f) (hb : b ≤ 11) : hD1 (L9 p d k a5 a6 (iV b) (iV f) (iV t)) H = some (.d (.int (hourOf f t b)), H) := by
  have e1 : (iop fun a b => if b ≠ 0 ∧ b.natAbs < 1073741824 then some (Int.fdiv a b) else none) (.d (.int (b - f + t - 1))) (.d (.int t)) H = some (.d (.int (Int.fdiv (b - f + t - 1) t))) := by
    show (if t ≠ 0 ∧ t.natAbs < 1073741824 then some (Int.fdiv (b - f + t - 1) t) else none).map _ = _
    rw [if_pos (by omega)]; rfl
  have e2 : (iop fun a b => if a.natAbs < 2 ^ 30 then some (a * b) else none) (.d (.int (max 0 (Int.fdiv (b - f + t - 1) t)))) (.d (.int t)) H = some (.d (.int (max 0 (Int.fdiv (b - f + t - 1) t) * t))) := by
    show (if (max 0 (Int.fdiv (b - f + t - 1) t)).natAbs < 2 ^ 30 then some (max 0 (Int.fdiv (b - f + t - 1) t) * t) else none).map _ = _
    have hx : Int.fdiv (b - f + t - 1) t ≤ 13 := by
      rw [Int.fdiv_eq_ediv_of_nonneg _ (Int.le_trans (by decide) h1)]
      refine Int.ediv_le_of_le_mul (Int.lt_of_lt_of_le (by decide) h1) ?_
      omega
    rw [if_pos (by generalize Int.fdiv (b - f + t - 1) t = y at *; clear e1; omega)]; rfl
  exact opN rfl (opN (callN (consN rfl (consN (opN (opN (opN (opN rfl rfl rfl) rfl rfl) rfl rfl) rfl e1) rfl)) rfl) rfl e2) rfl
noncomputable def fD1 : Lo → AH → Option (AV × AH) := ifD (cmpD (icmp fun a b => decide (a < b)) (ldD 5) (kD (.int 10))) (opD catO (kD (.str "/")) (methD joinO (kD (.str "/")) (consD (opD itO (ldD 1) (ldD 4)) nilD))) (kD (.str ""))
noncomputable def gD1 : Den := seqD (setD 6 (compD (itD (ldD 2)) [4, 1] 3 (tgN [2, 3, 4]) aT aE))
  (seqD (setD 7 (kD (.int 10))) (seqD bD (seqD (setD 8 (opD itO (opD itO (ldD 0) (ldD 4)) (kD (.int 1)))) (seqD (setD 9 (opD itO (opD itO (ldD 0) (ldD 4)) (kD (.int 2)))) (seqD (setD 5 hD1)
    (seqD (exprD (methD appO (ldD 2) (consD (tupD (consD (ldD 5) (consD (ldD 4) (consD fD1 nilD)))) nilD))) doneD))))))
noncomputable def iD1 : Den := seqD (iteD (cmpD (eqO false) (callD lenO (consD (opD itO (ldD 1) (ldD 4)) nilD)) (ldD 3)) gD1 doneD) doneD
section
variable {H R : AH} {j : Jb} {k d : Nat} {a5 a6 a7 a8 a9 : Option AV} {is : List Nat}
theorem fD_ev (ok : j.Ok) (hk : k < j.n) {H' : AH} {p : Nat} (h : H'[p]? = some j.N) : fD1 (L9 p (iV d) (iV k) (iV (j.D k)) a6 a7 a8 a9) H' = some (.d (.str (j.T j.D k).2.2), H') := by
  unfold Jb.T
  by_cases h1 : j.D k < 10
  · rw [if_pos h1]
    exact (ifT (cmpN rfl rfl (congrArg some (decide_eq_true h1)))).trans (opN rfl (methN rfl (consN (opN rfl rfl (nm_item ok hk h rfl)) rfl) (ful_jn _ _ (ok.w7 k hk))) (ful_ct _ _ (ok.w7 k hk)))
  · rw [if_neg h1]
    exact (ifF (cmpN rfl rfl (congrArg some (decide_eq_false h1)))).trans rfl
theorem job_item (ok : j.Ok) (hk : k < j.n) {H' : AH} (h : H'[1]? = some j.J) : itO (.r 1) (.d (.int k)) H' = some (.d (j.j1 k)) :=
  it_r h (by unfold Jb.J; rw [List.getElem?_map, List.getElem?_range hk]; rfl) (by unfold Jb.J; rw [List.length_map, List.length_range]; exact Nat.le_trans ok.n8 (by decide)) rfl
theorem gD_ev (ok : j.Ok) (hk : k < j.n) (hd : dp (j.w k) = d) (h2 : 1 < H.length) (hJ : H[1]? = some j.J) (hi : ∀ i ∈ is, i < j.n) (hl : is.length ≤ 900) (hr : ∀ i, i < j.n → dp (j.w i) < d → i ∈ is) :
    ∃ b5 b6 b7 b8 b9 R', gD1 (L9 H.length (iV d) (iV k) a5 a6 a7 a8 a9) (DH H j.N (is.map fun i => tri (j.T j.D i)) R) = some (.next, L9 H.length (iV d) (iV k) b5 b6 b7 b8 b9, DH H j.N ((is ++ [k]).map fun i => tri (j.T j.D i)) R') := by
  have e0 := above_ev (H := H) (R := R) (G := is.map fun i => tri (j.T j.D i)) (D := j.D) ok hk rfl is [] none none none hi (by rw [List.length_nil, Nat.zero_add]; exact Nat.le_trans hl (by decide))
  rw [List.nil_append] at e0
  have e1 : compD (itD (ldD 2)) [4, 1] 3 (tgN [2, 3, 4]) aT aE (L9 H.length (iV d) (iV k) a5 a6 a7 a8 a9) (DH H j.N (is.map fun i => tri (j.T j.D i)) R) = some (.r (H.length + 2 + R.length), DH H j.N (is.map fun i => tri (j.T j.D i)) (R ++ [(j.abL j.D k is).map prD])) := by
    have ei : itD (ldD 2) (L9 H.length (iV d) (iV k) a5 a6 a7 a8 a9) (DH H j.N (is.map fun i => tri (j.T j.D i)) R) = some ((is.map fun i => tri (j.T j.D i), some (H.length + 1)), DH H j.N (is.map fun i => tri (j.T j.D i)) R) := by
      show ((DH H j.N (is.map fun i => tri (j.T j.D i)) R)[H.length + 1]?).map _ = _
      rw [dh_get2]; rfl
    unfold compD
    rw [ei, Option.bind_some]
    simp only
    rw [dh_len, dh_add]
    exact congrArg (Option.map fun H' => (AV.r (H.length + 2 + R.length), H')) e0
  have hab : (j.abL j.D k is).length ≤ 1000 := by
    unfold Jb.abL; rw [List.length_map]; exact Nat.le_trans (List.length_filter_le _ _) (Nat.le_trans hl (by decide))
  have e2 := bound_ev (p := H.length) (d := d) (k := k) (a5 := a5) (a8 := a8) (a9 := a9) (dh_get3 (H := H) (M := j.N) (G := is.map fun i => tri (j.T j.D i)) (R := R) (A := (j.abL j.D k is).map prD) rfl) hab
  have eb : (if d = 1 then 0 else minB k (j.abL j.D k is)) = j.bo j.D k is := by unfold Jb.bo; rw [hd]
  have hD : j.D k = hourOf (j.f k) (j.t k) (j.bo j.D k is) := D_is ok hk hi (hd.symm ▸ hr)
  rw [eb] at e2
  have ej := job_item ok hk (H' := DH H j.N (is.map fun i => tri (j.T j.D i)) (R ++ [(j.abL j.D k is).map prD])) ((dh_get0 h2).trans hJ)
  have eh := hour_ev (H := DH H j.N (is.map fun i => tri (j.T j.D i)) (R ++ [(j.abL j.D k is).map prD])) (p := H.length) (d := iV d) (k := iV k) (a5 := a5) (a6 := some (.r (H.length + 2 + R.length))) (ok.t1 k hk) (ok.t3 k hk) (ok.f0 k hk) (bo_le (j := j) (D := j.D) (k := k) (is := is))
  rw [← hD] at eh
  have ef := fD_ev (d := d) (a6 := some (.r (H.length + 2 + R.length))) (a7 := iV (j.bo j.D k is)) (a8 := iV (j.f k)) (a9 := iV (j.t k)) ok hk (dh_get1 (H := H) (M := j.N) (G := is.map fun i => tri (j.T j.D i)) (R := R ++ [(j.abL j.D k is).map prD]))
  have ea : appO [.r (H.length + 1), .d (tri (j.T j.D k))] (DH H j.N (is.map fun i => tri (j.T j.D i)) (R ++ [(j.abL j.D k is).map prD])) = some (.d .none, DH H j.N ((is ++ [k]).map fun i => tri (j.T j.D i)) (R ++ [(j.abL j.D k is).map prD])) := by
    rw [appN dh_get2 (by rw [List.length_map]; exact Nat.le_trans hl (by decide)), dh_set2, List.map_append]; rfl
  exact ⟨_, _, _, _, _, _, (seqN (setN e1)).trans ((seqN (setN rfl)).trans ((seqN e2).trans ((seqN (setN (opN (opN rfl rfl ej) rfl rfl))).trans ((seqN (setN (opN (opN rfl rfl ej) rfl rfl))).trans ((seqN (setN eh)).trans
    ((seqN (exprN (methN rfl (consN (tupN (consN rfl (consN rfl (consN ef rfl))) rfl) rfl) ea))).trans rfl))))))⟩
theorem iD_ev (ok : j.Ok) (hk : k < j.n) (h2 : 1 < H.length) (hJ : H[1]? = some j.J) (hi : ∀ i ∈ is, i < j.n) (hl : is.length ≤ 900) (hr : ∀ i, i < j.n → dp (j.w i) < d → i ∈ is) :
    ∃ b5 b6 b7 b8 b9 R', iD1 (L9 H.length (iV d) (iV k) a5 a6 a7 a8 a9) (DH H j.N (is.map fun i => tri (j.T j.D i)) R) = some (.next, L9 H.length (iV d) (iV k) b5 b6 b7 b8 b9, DH H j.N ((if dp (j.w k) = d then is ++ [k] else is).map fun i => tri (j.T j.D i)) R') := by
  have e1 : cmpD (eqO false) (callD lenO (consD (opD itO (ldD 1) (ldD 4)) nilD)) (ldD 3) (L9 H.length (iV d) (iV k) a5 a6 a7 a8 a9) (DH H j.N (is.map fun i => tri (j.T j.D i)) R) = some (decide (dp (j.w k) = d), DH H j.N (is.map fun i => tri (j.T j.D i)) R) := by
    refine cmpN (callN (consN (opN rfl rfl (nm_item ok hk dh_get1 rfl)) rfl) (len_ev _ _ (ok.w7 k hk))) rfl ?_
    show some (((dp (j.w k) : Int) == (d : Int)) != false) = _
    by_cases e : dp (j.w k) = d
    · rw [decide_eq_true e, e, beq_self_eq_true]; rfl
    · rw [decide_eq_false e, beq_eq_false_iff_ne.mpr (fun h => e (Int.ofNat_inj.mp h))]; rfl
  by_cases hd : dp (j.w k) = d
  · rw [decide_eq_true hd] at e1
    rw [if_pos hd]
    obtain ⟨b5, b6, b7, b8, b9, R', e⟩ := gD_ev (R := R) (a5 := a5) (a6 := a6) (a7 := a7) (a8 := a8) (a9 := a9) ok hk hd h2 hJ hi hl hr
    exact ⟨b5, b6, b7, b8, b9, R', (seqN ((iteT e1).trans e)).trans rfl⟩
  · rw [decide_eq_false hd] at e1
    rw [if_neg hd]
    exact ⟨_, _, _, _, _, _, (seqN ((iteF e1).trans rfl)).trans rfl⟩
end
noncomputable def nE : Lo → AH → Option (AV × AH) := callD (bodyD 1 2 lnP.1) (consD (opD itO (ldD 0) (kD (.int 0))) nilD)
theorem rng_small {m : Nat} (hm : m ≤ 8) {fs : Lo → AH → Option (List AV × AH)} {lo : Lo} {H : AH} (e : fs lo H = some ([.d (.int m)], H)) : rngD fs lo H = some (((List.range m).map fun (k : Nat) => .int k, none), H) := by
  unfold rngD
  rw [e]
  clear e
  revert m
  apply n8 <;> kernel_rfl
noncomputable def oD1 : Den := seqD (forD 4 (rngD (consD (callD lenO (consD (ldD 0) nilD)) nilD)) iD1) doneD
noncomputable def Jb.fl (j : Jb) (d : Nat) : List Nat := (List.range j.n).filter fun k => decide (dp (j.w k) = d)
section
variable {H R : AH} {j : Jb} {k d : Nat} {a4 a5 a6 a7 a8 a9 : Option AV} {is : List Nat}
theorem names_ev (ok : j.Ok) (h2 : 1 < H.length) (hJ : H[1]? = some j.J) : ∀ (is : List Nat) (M : List PyData) (z : Option AV), (∀ i ∈ is, i < j.n) → M.length + is.length ≤ 1000 →
    cloopD H.length (tg1 0) tNo nE (j.J, some 1) (is.map j.j1) [z] (H ++ [M]) = some (H ++ [M ++ is.map fun i => .list (nl (j.w i))]) := by
  intro is
  induction is with
  | nil => intro M z _ _; rw [List.map_nil, List.map_nil, List.append_nil]; rfl
  | cons i is ih =>
    intro M z hi hl
    rw [List.length_cons] at hl
    have hw := ok.w7 i (hi i (.head _))
    have hg : ∀ M : List PyData, okG (j.J, some 1) (H ++ [M]) := fun M n hn => by cases hn; exact (List.getElem?_append_left h2).trans hJ
    have hs : ∀ M' : List PyData, (H ++ [M]).set H.length M' = H ++ [M'] := fun M' => by rw [List.set_append_right _ _ (Nat.le_refl _), Nat.sub_self]; rfl
    have hm : (H ++ [M])[H.length]? = some M := by rw [List.getElem?_append_right (Nat.le_refl _), Nat.sub_self]; rfl
    have e1 : nE [some (.d (j.j1 i))] (H ++ [M]) = some (.d (.list (nl (j.w i))), H ++ [M]) := callN (consN (opN rfl rfl rfl) rfl) (ln_ev _ _ hw)
    rw [List.map_cons, cl_yes (lo1 := [some (.d (j.j1 i))]) rfl rfl e1 hm (by omega) (by rw [hs]; exact hg _), hs, ih _ _ (fun n hn => hi n (.tail _ hn)) (by rw [List.length_append, List.length_singleton]; omega)]
    rw [List.append_assoc]; rfl
theorem inner_ev (ok : j.Ok) (h2 : 1 < H.length) (hJ : H[1]? = some j.J) (src : List PyData) : ∀ (ks is : List Nat) (R : AH) (a4 a5 a6 a7 a8 a9 : Option AV), (∀ k ∈ ks, k < j.n) → (∀ i ∈ is, i < j.n) → is.length + ks.length ≤ 900 → (∀ i, i < j.n → dp (j.w i) < d → i ∈ is) →
    ∃ b4 b5 b6 b7 b8 b9 R', loopD 4 iD1 (src, none) (ks.map fun (k : Nat) => .int k) (L9 H.length (iV d) a4 a5 a6 a7 a8 a9) (DH H j.N (is.map fun i => tri (j.T j.D i)) R) = some (.next, L9 H.length (iV d) b4 b5 b6 b7 b8 b9, DH H j.N ((is ++ ks.filter fun k => decide (dp (j.w k) = d)).map fun i => tri (j.T j.D i)) R') := by
  intro ks
  induction ks with
  | nil => intro is R a4 a5 a6 a7 a8 a9 _ _ _ _; exact ⟨_, _, _, _, _, _, _, by rw [List.filter_nil, List.append_nil]; rfl⟩
  | cons k ks ih =>
    intro is R a4 a5 a6 a7 a8 a9 hk hi hl hr
    rw [List.length_cons] at hl
    have hk0 := hk k (.head _)
    obtain ⟨b5, b6, b7, b8, b9, R', e⟩ := iD_ev (R := R) (a5 := a5) (a6 := a6) (a7 := a7) (a8 := a8) (a9 := a9) ok hk0 h2 hJ hi (by omega) hr
    have es : loopD 4 iD1 (src, none) ((k :: ks).map fun (k : Nat) => .int k) (L9 H.length (iV d) a4 a5 a6 a7 a8 a9) (DH H j.N (is.map fun i => tri (j.T j.D i)) R) = loopD 4 iD1 (src, none) (ks.map fun (k : Nat) => .int k) (L9 H.length (iV d) (iV k) b5 b6 b7 b8 b9) (DH H j.N ((if dp (j.w k) = d then is ++ [k] else is).map fun i => tri (j.T j.D i)) R') := by
      show ((iD1 (L9 H.length (iV d) (iV k) a5 a6 a7 a8 a9) (DH H j.N (is.map fun i => tri (j.T j.D i)) R)).bind _) = _
      rw [e]; rfl
    rw [es, List.filter_cons]
    by_cases h : dp (j.w k) = d
    · rw [if_pos h, if_pos (decide_eq_true h)]
      have := ih (is ++ [k]) R' (iV k) b5 b6 b7 b8 b9 (fun n hn => hk n (.tail _ hn)) (fun n hn => (List.mem_append.mp hn).elim (hi n) fun h => by rw [List.mem_singleton.mp h]; exact hk0) (by rw [List.length_append, List.length_singleton]; omega) (fun i h1 h2 => List.mem_append_left _ (hr i h1 h2))
      rw [List.append_assoc] at this
      exact this
    · rw [if_neg h, if_neg (by rw [decide_eq_false h]; decide)]
      exact ih is R' (iV k) b5 b6 b7 b8 b9 (fun n hn => hk n (.tail _ hn)) hi (by omega) hr
theorem outer_ev (ok : j.Ok) (h2 : 1 < H.length) (hJ : H[1]? = some j.J) (hi : ∀ i ∈ is, i < j.n) (hl : is.length ≤ 800) (hr : ∀ i, i < j.n → dp (j.w i) < d → i ∈ is) :
    ∃ b4 b5 b6 b7 b8 b9 R', oD1 (L9 H.length (iV d) a4 a5 a6 a7 a8 a9) (DH H j.N (is.map fun i => tri (j.T j.D i)) R) = some (.next, L9 H.length (iV d) b4 b5 b6 b7 b8 b9, DH H j.N ((is ++ j.fl d).map fun i => tri (j.T j.D i)) R') := by
  have hJl : j.J.length = j.n := by unfold Jb.J; rw [List.length_map, List.length_range]
  have n8 := ok.n8
  have e1 : rngD (consD (callD lenO (consD (ldD 0) nilD)) nilD) (L9 H.length (iV d) a4 a5 a6 a7 a8 a9) (DH H j.N (is.map fun i => tri (j.T j.D i)) R) = some (((List.range j.n).map fun (k : Nat) => .int k, none), DH H j.N (is.map fun i => tri (j.T j.D i)) R) := by
    refine rng_small n8 (consN (callN (consN rfl rfl) ?_) rfl)
    unfold lenO
    simp only
    rw [as_r ((dh_get0 h2).trans hJ), Option.bind_some]
    simp only
    rw [hJl, if_pos (by omega)]
  obtain ⟨b4, b5, b6, b7, b8, b9, R', e⟩ := inner_ev (d := d) ok h2 hJ ((List.range j.n).map fun (k : Nat) => .int k) (List.range j.n) is R a4 a5 a6 a7 a8 a9 (fun k hk => List.mem_range.mp hk) hi (by rw [List.length_range]; omega) hr
  refine ⟨b4, b5, b6, b7, b8, b9, R', (seqN ?_).trans rfl⟩
  unfold forD
  rw [e1, Option.bind_some]
  exact e
theorem fl_mem {i : Nat} : i ∈ j.fl d ↔ i < j.n ∧ dp (j.w i) = d := by
  unfold Jb.fl; rw [List.mem_filter, List.mem_range, decide_eq_true_iff]
theorem fl_perm (ok : j.Ok) : (j.fl 1 ++ j.fl 2 ++ j.fl 3).Perm (List.range j.n) := by
  have nd : ∀ d, (j.fl d).Nodup := fun d => List.nodup_range.filter _
  have dis : ∀ d e, d ≠ e → ∀ a ∈ j.fl d, ∀ b ∈ j.fl e, a ≠ b := fun d e h a ha b hb q => h ((fl_mem.mp ha).2.symm.trans (q ▸ (fl_mem.mp hb).2))
  refine (List.perm_ext_iff_of_nodup ?_ List.nodup_range).mpr fun i => ?_
  · refine List.nodup_append.mpr ⟨List.nodup_append.mpr ⟨nd 1, nd 2, dis 1 2 (by decide)⟩, nd 3, fun a ha b hb => ?_⟩
    rcases List.mem_append.mp ha with h | h
    · exact dis 1 3 (by decide) a h b hb
    · exact dis 2 3 (by decide) a h b hb
  · rw [List.mem_append, List.mem_append, fl_mem, fl_mem, fl_mem, List.mem_range]
    constructor
    · rintro ((h | h) | h) <;> exact h.1
    · intro h
      have := dp_13 _ (ok.w7 i h)
      have e : dp (j.w i) = 1 ∨ dp (j.w i) = 2 ∨ dp (j.w i) = 3 := by omega
      rcases e with e | e | e
      · exact .inl (.inl ⟨h, e⟩)
      · exact .inl (.inr ⟨h, e⟩)
      · exact .inr ⟨h, e⟩
theorem trips_map : ∀ l : List Tri, trips (l.map tri) = some l
  | [] => rfl
  | (a, b, x) :: l => by
    show (trips (l.map tri)).map ((a, b, x) :: ·) = _
    rw [trips_map l]; rfl
theorem sort_ev {q : Nat} {l : List Tri} (h : H[q]? = some (l.map tri)) (hl : l.length < 64) (hn : (l.map key).Nodup) : sortO [.r q] H = some (.d (.list ((isort l).map tri)), H) := by
  unfold sortO
  simp only
  rw [as_r h, Option.bind_some]
  simp only
  rw [trips_map, Option.bind_some, if_pos ⟨by rw [List.length_map]; exact hl, hn⟩]
theorem du_ev (ok : j.Ok) (h2 : 1 < H.length) (hJ : H[1]? = some j.J) : ∃ R', bodyD 1 9 duP.1 [.r 1] H = some (.d (.list ((isort ((j.fl 1 ++ j.fl 2 ++ j.fl 3).map (j.T j.D))).map tri)), H ++ R') := by
  have n8 := ok.n8
  have hp := fl_perm ok
  have hlen := hp.length_eq
  rw [List.length_range] at hlen
  have e1 := names_ev ok h2 hJ (List.range j.n) [] none (fun k hk => List.mem_range.mp hk) (by rw [List.length_range]; exact Nat.le_trans (by rw [List.length_nil, Nat.zero_add]; exact n8) (by decide))
  rw [List.nil_append] at e1
  have e1' : compD (itD (ldD 0)) [] 1 (tg1 0) tNo nE [some (.r 1), none, none, none, none, none, none, none, none, none] H = some (.r H.length, H ++ [j.N]) := by
    have ei : itD (ldD 0) [some (.r 1), none, none, none, none, none, none, none, none, none] H = some ((j.J, some 1), H) := by
      show (H[1]?).map _ = _
      rw [hJ]; rfl
    unfold compD
    rw [ei, Option.bind_some]
    exact congrArg (Option.map fun H' => (AV.r H.length, H')) e1
  have ef1 : ∀ i ∈ j.fl 1, i < j.n := fun i hi => (fl_mem.mp hi).1
  have ef2 : ∀ i ∈ j.fl 1 ++ j.fl 2, i < j.n := fun i hi => (List.mem_append.mp hi).elim (ef1 i) fun h => (fl_mem.mp h).1
  rw [List.length_append, List.length_append] at hlen
  obtain ⟨a4, a5, a6, a7, a8, a9, R1, q1⟩ := outer_ev (d := 1) (R := []) (a4 := none) (a5 := none) (a6 := none) (a7 := none) (a8 := none) (a9 := none) (is := []) ok h2 hJ (fun i hi => (nomatch hi)) (Nat.zero_le _) (fun i h1 h => absurd h (Nat.not_lt.mpr (dp_13 _ (ok.w7 i h1)).1))
  obtain ⟨b4, b5, b6, b7, b8, b9, R2, q2⟩ := outer_ev (d := 2) (R := R1) (a4 := a4) (a5 := a5) (a6 := a6) (a7 := a7) (a8 := a8) (a9 := a9) (is := j.fl 1) ok h2 hJ ef1 (by omega) (fun i h1 h => fl_mem.mpr ⟨h1, by have := dp_13 _ (ok.w7 i h1); omega⟩)
  obtain ⟨c4, c5, c6, c7, c8, c9, R3, q3⟩ := outer_ev (d := 3) (R := R2) (a4 := b4) (a5 := b5) (a6 := b6) (a7 := b7) (a8 := b8) (a9 := b9) (is := j.fl 1 ++ j.fl 2) ok h2 hJ ef2 (by rw [List.length_append]; omega) (fun i h1 h => by
    have k := dp_13 _ (ok.w7 i h1)
    rcases (show dp (j.w i) = 1 ∨ dp (j.w i) = 2 by omega) with e | e
    · exact List.mem_append_left _ (fl_mem.mpr ⟨h1, e⟩)
    · exact List.mem_append_right _ (fl_mem.mpr ⟨h1, e⟩))
  have eN : (H ++ [j.N]) ++ [[]] = DH H j.N [] [] := by unfold DH; rw [List.append_assoc]; rfl
  have eL : (H ++ [j.N]).length = H.length + 1 := by rw [List.length_append]; rfl
  have e2 : setD 2 (trkD nilD) (List.set [some (.r 1), none, none, none, none, none, none, none, none, none] 1 (some (.r H.length))) (H ++ [j.N]) = some (.next, L9 H.length none none none none none none none, DH H j.N [] []) := by
    show some (AF.next, ([some (AV.r 1), some (AV.r H.length), some (AV.r (H ++ [j.N]).length), none, none, none, none, none, none, none] : Lo), (H ++ [j.N]) ++ [[]]) = _
    rw [eL, eN]; rfl
  have e3 : forD 3 (rngD (consD (kD (.int 1)) (consD (kD (.int 4)) nilD))) oD1 (L9 H.length none none none none none none none) (DH H j.N [] []) = some (.next, L9 H.length (iV (3 : Nat)) c4 c5 c6 c7 c8 c9, DH H j.N ((j.fl 1 ++ j.fl 2 ++ j.fl 3).map fun i => tri (j.T j.D i)) R3) := by
    show loopD 3 oD1 (([.int (1 : Nat), .int (2 : Nat), .int (3 : Nat)] : List PyData), none) [.int (1 : Nat), .int (2 : Nat), .int (3 : Nat)] (L9 H.length none none none none none none none) (DH H j.N [] []) = _
    show ((oD1 (L9 H.length (iV (1 : Nat)) none none none none none none) (DH H j.N (([] : List Nat).map fun i => tri (j.T j.D i)) [])).bind _) = _
    rw [q1]
    show ((oD1 (L9 H.length (iV (2 : Nat)) a4 a5 a6 a7 a8 a9) (DH H j.N ((j.fl 1).map fun i => tri (j.T j.D i)) R1)).bind _) = _
    rw [q2]
    show ((oD1 (L9 H.length (iV (3 : Nat)) b4 b5 b6 b7 b8 b9) (DH H j.N ((j.fl 1 ++ j.fl 2).map fun i => tri (j.T j.D i)) R2)).bind _) = _
    rw [q3]; rfl
  have hnd : (((j.fl 1 ++ j.fl 2 ++ j.fl 3).map (j.T j.D)).map key).Nodup := by
    rw [List.map_map]
    exact List.pairwise_map.mpr (((hp.nodup_iff).mpr List.nodup_range).imp fun hne h => hne (Int.ofNat_inj.mp (congrArg Prod.snd h)))
  have e4 := sort_ev (q := H.length + 1) (H := DH H j.N ((j.fl 1 ++ j.fl 2 ++ j.fl 3).map fun i => tri (j.T j.D i)) R3) (l := (j.fl 1 ++ j.fl 2 ++ j.fl 3).map (j.T j.D)) (by rw [dh_get2, List.map_map]; rfl) (by rw [List.length_map, List.length_append, List.length_append]; omega) hnd
  exact ⟨_, bodyN rfl ((seqN (setN e1')).trans ((seqN e2).trans ((seqN e3).trans (seqR (retN (callN (consN rfl rfl) e4))))))⟩
end
theorem pick6 (l : List PyData) : pickD l none (some 6) = l.take 6 := by
  unfold pickD loN hiN
  have e1 : (sliceBounds none none none l.length).1.toNat = 0 := by simp [sliceBounds]
  rw [e1, List.drop_zero, Nat.sub_zero]
  have e2 : (sliceBounds none (some 6) none l.length).2.1.toNat = min 6 l.length := by
    simp [sliceBounds]; omega
  rw [e2, ← List.take_take, List.take_length]
/-- the jobs of the numbers -/
noncomputable def jbs (xs : List Int) : Jb := ⟨xs.length, fun i => ((xs.getD i 0).fmod 7).toNat, fun i => ((xs.getD i 0).fdiv 7).fmod 8, fun i => ((xs.getD i 0).fdiv 56).fmod 3 + 1⟩
theorem jbs_ok {xs : List Int} (h : xs.length ≤ 8) : (jbs xs).Ok := by
  refine ⟨fun i _ => ?_, fun i _ => ?_, fun i _ => ?_, fun i _ => ?_, h⟩ <;> unfold jbs <;> simp only
  · have := Int.fmod_nonneg_of_pos (xs.getD i 0) (b := 7) (by decide)
    have := Int.fmod_lt_of_pos (xs.getD i 0) (b := 7) (by decide)
    omega
  · exact Int.fmod_nonneg_of_pos _ (by decide)
  · have := Int.fmod_nonneg_of_pos ((xs.getD i 0).fdiv 56) (b := 3) (by decide)
    omega
  · have := Int.fmod_lt_of_pos ((xs.getD i 0).fdiv 56) (b := 3) (by decide)
    omega
noncomputable def words : PyData := .list [.str "a", .str "a/b", .str ".//a/b/q\"", .str "q\"", .str "b/../q\"//a", .str "a/../q\"/a/b/.", .str "c/d"]
noncomputable def wordsD : Lo → AH → Option (AV × AH) := lstD (consD (kD (.str "a")) (consD (kD (.str "a/b")) (consD (kD (.str ".//a/b/q\"")) (consD (kD (.str "q\"")) (consD (kD (.str "b/../q\"//a")) (consD (kD (.str "a/../q\"/a/b/.")) (consD (kD (.str "c/d")) nilD)))))))
theorem words_ev (lo : Lo) (H : AH) : wordsD lo H = some (.d words, H) := rfl
theorem word_it (H : AH) : ∀ w, w < 7 → itO (.d words) (.d (.int (w : Nat))) H = some (.d (.str (wd w))) := by apply w7 <;> kernel_rfl
noncomputable abbrev modO : AV → AV → AH → Option AV := iop fun a b => if b ≠ 0 then some (a.fmod b) else none
noncomputable abbrev divO : AV → AV → AH → Option AV := iop fun a b => if b ≠ 0 ∧ b.natAbs < 1073741824 then some (Int.fdiv a b) else none
noncomputable def jE : Lo → AH → Option (AV × AH) := tupD (consD (opD itO (ldD 0) (opD modO (ldD 1) (kD (.int 7)))) (consD (opD modO (opD divO (ldD 1) (kD (.int 7))) (kD (.int 8)))
  (consD (opD (iop fun a b => some (a + b)) (opD modO (opD divO (ldD 1) (kD (.int 56))) (kD (.int 3))) (kD (.int 1))) nilD)))
noncomputable def jOf (x : Int) : PyData := .tuple [.str (wd (x.fmod 7).toNat), .int ((x.fdiv 7).fmod 8), .int ((x.fdiv 56).fmod 3 + 1)]
theorem jE_ev (x : Int) (H : AH) : jE [some (.d words), iV x] H = some (.d (jOf x), H) := by
  have h0 := Int.fmod_nonneg_of_pos x (b := 7) (by decide)
  have h1 := Int.fmod_lt_of_pos x (b := 7) (by decide)
  have e := word_it H (x.fmod 7).toNat (by omega)
  rw [Int.toNat_of_nonneg h0] at e
  exact tupN (consN (opN rfl (opN rfl rfl rfl) e) (consN (opN (opN rfl rfl rfl) rfl rfl) (consN (opN (opN (opN rfl rfl rfl) rfl rfl) rfl rfl) rfl))) rfl
theorem jobs_loop (X : List PyData) (src : List PyData) : ∀ (xs : List Int) (A : List PyData) (z : Option AV), A.length + xs.length ≤ 1000 →
    cloopD 1 (tg1 1) tNo jE (src, none) (xs.map .int) [some (.d words), z] [X, A] = some [X, A ++ xs.map jOf] := by
  intro xs
  induction xs with
  | nil => intro A z _; rw [List.map_nil, List.map_nil, List.append_nil]; rfl
  | cons x xs ih =>
    intro A z hl
    rw [List.length_cons] at hl
    rw [List.map_cons, cl_yes (lo1 := [some (.d words), iV x]) (l := A) rfl rfl (jE_ev x _) rfl (by omega) (fun n hn => by cases hn)]
    have := ih (A ++ [jOf x]) (iV x) (by rw [List.length_append, List.length_singleton]; omega)
    rw [List.append_assoc] at this
    exact this
theorem jbs_J (xs : List Int) : (jbs xs).J = xs.map jOf := by
  unfold Jb.J jbs
  simp only
  refine List.ext_getElem (by rw [List.length_map, List.length_map, List.length_range]) fun i h1 h2 => ?_
  rw [List.getElem_map, List.getElem_map, List.getElem_range]
  have hi : i < xs.length := by rwa [List.length_map] at h2
  have e : xs.getD i 0 = xs[i] := by rw [List.getD, List.getElem?_eq_getElem hi]; rfl
  rw [e]; rfl
theorem lj_ev (xs : List Int) (h : xs.length ≤ 8) (X : List PyData) : bodyD 1 1 ljP.1 [.d (.list (xs.map .int))] [X] = some (.r 1, [X, (jbs xs).J]) := by
  have e1 := jobs_loop X (xs.map .int) xs [] none (by rw [List.length_nil, Nat.zero_add]; exact Nat.le_trans h (by decide))
  rw [List.nil_append] at e1
  rw [jbs_J]
  have e2 : compD (itD (ldD 0)) [1] 1 (tg1 1) tNo jE [some (.d (.list (xs.map .int))), some (.d words)] [X] = some (.r 1, [X, xs.map jOf]) := by
    show (cloopD 1 (tg1 1) tNo jE (xs.map .int, none) (xs.map .int) [some (.d words), none] [X, []]).map (fun H' => (AV.r 1, H')) = _
    rw [e1]; rfl
  refine bodyN (lo1 := [some (.d (.list (xs.map .int))), some (.d words)]) rfl ?_
  rw [show ljP.1 = seqD (setD 1 wordsD) (seqD (retD (compD (itD (ldD 0)) [1] 1 (tg1 1) tNo jE)) doneD) from rfl]
  refine (seqN (setN (words_ev _ _))).trans ?_
  exact seqR (retN e2)
theorem mod_loop (src : List PyData) : ∀ (zs : List Int) (A : List PyData) (z : Option AV), A.length + zs.length ≤ 1000 →
    cloopD 0 (tg1 0) tNo (opD modO (ldD 0) (kD (.int 1000000))) (src, none) (zs.map .int) [z] [A] = some [A ++ zs.map fun z => .int (z.fmod 1000000)] := by
  intro zs
  induction zs with
  | nil => intro A z _; rw [List.map_nil, List.map_nil, List.append_nil]; rfl
  | cons x xs ih =>
    intro A z hl
    rw [List.length_cons] at hl
    rw [List.map_cons, cl_yes (lo1 := [iV x]) (l := A) (x := .int (x.fmod 1000000)) rfl rfl rfl rfl (by omega) (fun n hn => by cases hn)]
    have := ih (A ++ [.int (x.fmod 1000000)]) (iV x) (by rw [List.length_append, List.length_singleton]; omega)
    rw [List.append_assoc] at this
    exact this
theorem tri_ok : ∀ l : List Tri, (∀ t ∈ l, PyData.strOk t.2.2 = true) → PyData.canLayAll0 (l.map tri) = true ∧ PyData.depthAll (l.map tri) ≤ 1
  | [], _ => ⟨rfl, Nat.zero_le _⟩
  | t :: l, h => by
    obtain ⟨h1, h2⟩ := tri_ok l fun u hu => h u (.tail _ hu)
    have h3 := h t (.head _)
    refine ⟨?_, ?_⟩
    · simp [PyData.canLayAll0, PyData.canLay0, tri, h1, h3]
    · simp [PyData.depthAll, PyData.depth, tri]; exact Nat.max_le.mpr ⟨Nat.le_refl 1, h2⟩
theorem T_ok {j : Jb} (ok : j.Ok) {D : Nat → Int} {i : Nat} (hi : i < j.n) : PyData.strOk (j.T D i).2.2 = true := by
  have e : ∀ w, w < 7 → PyData.strOk (pw w) = true := by apply w7 <;> kernel_rfl
  unfold Jb.T
  by_cases h : D i < 10
  · rw [if_pos h]; exact e _ (ok.w7 i hi)
  · rw [if_neg h]; kernel_rfl
/-- the law's body answers true -/
theorem law_ev (zs : List Int) (hz : zs.length ≤ 1000) : ∃ lo' H', lawP.1 [some (.d (.list (zs.map .int))), none] [] = some (.ret (.d (.bool true)), lo', H') := by
  have hl : (zs.take 6).length ≤ 6 := List.length_take_le _ _
  have e0 : slD (ldD 0) none (some (kD (.int 6))) [some (.d (.list (zs.map .int))), none] [] = some (.d (.list ((zs.take 6).map .int)), []) := by
    refine slN (H3 := []) rfl rfl rfl ?_
    show (if (zs.map PyData.int).length ≤ 100000 then some (AV.d (.list (pickD (zs.map .int) none (some 6)))) else none) = _
    rw [if_pos (by rw [List.length_map]; exact Nat.le_trans hz (by decide)), pick6, List.map_take]
  have e1 := mod_loop ((zs.take 6).map .int) (zs.take 6) [] none (by rw [List.length_nil, Nat.zero_add]; exact Nat.le_trans hl (by decide))
  rw [List.nil_append] at e1
  have e2 : compD (itD (slD (ldD 0) none (some (kD (.int 6))))) [] 1 (tg1 0) tNo (opD modO (ldD 0) (kD (.int 1000000))) [some (.d (.list (zs.map .int))), none] [] = some (.r 0, [(zs.take 6).map fun z => .int (z.fmod 1000000)]) := by
    unfold compD itD
    rw [e0, Option.bind_some]
    exact congrArg (Option.map fun H' => (AV.r 0, H')) e1
  generalize hxs : (1 : Int) :: 14 :: (zs.take 6).map (fun z => z.fmod 1000000) = xs
  have hxl : xs.length ≤ 8 := by rw [← hxs, List.length_cons, List.length_cons, List.length_map]; omega
  have e3 : opD lcat (lstD (consD (kD (.int 1)) (consD (kD (.int 14)) nilD))) (compD (itD (slD (ldD 0) none (some (kD (.int 6))))) [] 1 (tg1 0) tNo (opD modO (ldD 0) (kD (.int 1000000)))) [some (.d (.list (zs.map .int))), none] [] = some (.d (.list (xs.map .int)), [(zs.take 6).map fun z => .int (z.fmod 1000000)]) := by
    refine opN (v := .d (.list [.int 1, .int 14])) (H1 := []) rfl e2 ?_
    show (if [PyData.int 1, .int 14].length + ((zs.take 6).map fun z => PyData.int (z.fmod 1000000)).length ≤ 1000 then some (AV.d (.list ([PyData.int 1, .int 14] ++ (zs.take 6).map fun z => PyData.int (z.fmod 1000000)))) else none) = _
    rw [if_pos (by rw [List.length_map]; exact Nat.le_trans (Nat.add_le_add_left hl _) (by decide)), ← hxs, List.map_cons, List.map_cons, List.map_map]; rfl
  generalize (zs.take 6).map (fun z => PyData.int (z.fmod 1000000)) = X at e2 e3
  have ok := jbs_ok hxl
  have e4 := lj_ev xs hxl X
  generalize jbs xs = j at ok e4
  obtain ⟨is, ms, N, e5, v⟩ := lw_ev ok (D_due ok) X
  obtain ⟨R', e6⟩ := du_ev (H := ST4 X j.J j.P N [] ms (is.map (j.T j.D))) ok (Nat.succ_le_succ (Nat.succ_le_succ (Nat.zero_le _))) rfl
  have hpm : is.Perm (List.range j.n) := v.pm
  have hp2 := fl_perm ok
  have hnd : (((j.fl 1 ++ j.fl 2 ++ j.fl 3).map (j.T j.D)).map key).Nodup := by
    rw [List.map_map]
    exact List.pairwise_map.mpr (((hp2.nodup_iff).mpr List.nodup_range).imp fun hne h => hne (Int.ofNat_inj.mp (congrArg Prod.snd h)))
  have eq : isort ((j.fl 1 ++ j.fl 2 ++ j.fl 3).map (j.T j.D)) = is.map (j.T j.D) :=
    sorted_uniq ((isort_perm _).trans ((hp2.trans hpm.symm).map _)) (isort_sorted _ hnd) v.so
  rw [eq] at e6
  have hok := tri_ok (is.map (j.T j.D)) fun t ht => by
    obtain ⟨i, hi, rfl⟩ := List.mem_map.mp ht
    exact T_ok ok (v.isn i hi)
  have e7 : eqO false (.r (5 + N.length)) (.d (.list ((is.map (j.T j.D)).map tri))) (ST4 X j.J j.P N [] ms (is.map (j.T j.D)) ++ R') = some true := by
    unfold eqO
    have hg : (ST4 X j.J j.P N [] ms (is.map (j.T j.D)) ++ R')[5 + N.length]? = some ((is.map (j.T j.D)).map tri) := by
      have := st_g (X := X) (J := j.J) (P := j.P) (N := N) (l := []) (ms := ms) (g := is.map (j.T j.D))
      rw [List.getElem?_append_left (List.getElem?_eq_some_iff.mp this).1]
      exact this
    rw [as_r hg, Option.bind_some]
    show (if (PyData.list ((is.map (j.T j.D)).map tri)).depth ≤ 50 then some (PyData.eqv (.list ((is.map (j.T j.D)).map tri)) (.list ((is.map (j.T j.D)).map tri)) != false) else none) = _
    rw [if_pos (show (PyData.list ((is.map (j.T j.D)).map tri)).depth ≤ 50 by simp only [PyData.depth]; have := hok.2; omega), SeqAt.eqv_refl (.list ((is.map (j.T j.D)).map tri)) hok.1]; rfl
  have e8 : boolAV (eqO false) (.r (5 + N.length)) (.d (.list ((is.map (j.T j.D)).map tri))) (ST4 X j.J j.P N [] ms (is.map (j.T j.D)) ++ R') = some (.d (.bool true)) := by unfold boolAV; rw [e7]; rfl
  exact ⟨_, _, (seqN (setN (callN (consN e3 rfl) e4))).trans (seqR (retN (opN (callN (consN rfl rfl) e5) (callN (consN rfl rfl) e6) e8)))⟩
noncomputable def gxOf (w : World) (q : Program) (s₀ : Shared) (mg mb : Str → Option Value) : Gx := ⟨PySem.Challenge.rw_pd0172_01.row.prog, w, q, looseW q [], ExcName.means s₀.heap, mg, mb⟩
theorem gb_of {q : Program} {loose : List Str} {mean : ExcName → Option Value} {mg mb : Str → Option Value} {h : Heap} (T : Top q loose mean mg mb h) {x : Str} {v : Value}
    (k : (!(startupNames.contains x) && (!(loose.contains x) && (!(((recsOf q).map (·.name)).contains x) && (!(((litsOf q).map (·.1)).contains x) && !(((clssOf q loose).map (·.name)).contains x))))) = true) (hb : bootBuiltins x = some v) (hn : x ≠ "__name__") : mg x = none ∧ bootBuiltins x = some v ∧ x ≠ "__name__" := by
  simp only [Bool.and_eq_true, Bool.not_eq_true', List.contains_eq_mem, decide_eq_false_iff_not] at k
  exact ⟨T.free x k.1 k.2.1 k.2.2.1 k.2.2.2.1 k.2.2.2.2, hb, hn⟩
abbrev bNames : List (Str × Value) := [("len", .builtin "len"), ("range", .type "range"), ("reversed", .type "reversed"), ("type", .type "type"), ("issubclass", .builtin "issubclass"), ("isinstance", .builtin "isinstance"), ("str", .type "str"), ("bytes", .type "bytes"), ("min", .builtin "min"), ("max", .builtin "max"), ("sorted", .builtin "sorted")]
theorem join {q : Program} (hrecs : ∀ k ∈ [2, 3, 4, 5, 6, 10, 19, 23, 24, 25, 26, 27, 29, 30, 31, 32, 33], dr k ∈ recsOf q)
    (hnames : ∀ x ∈ bNames.map (·.1), (!(startupNames.contains x) && (!((looseW q []).contains x) && (!(((recsOf q).map (·.name)).contains x) && (!(((litsOf q).map (·.1)).contains x) && !(((clssOf q (looseW q [])).map (·.name)).contains x))))) = true)
    (hspec : specOf q "error_reply" = some ("Exception.__new__", errBm)) : WalkO q [] (XL q []) Hook.none.says PySem.Challenge.rw_pd0172_01.row.toRowW (dr 34) [] fun f vs => call f vs := by
  w_on
  intro w s₀ s₁ mg mb G Y fa o pm cd doc dV kV ho hd hcd hD hmg hg args vals as hpre hlay hrd hwl hlo
  refine Ground.open G ?_
  intro T B D TE TW
  wrow_args hpre hlay hrd hwl hlo
  rename_i zs hs2 hlay0 hL1 hr1 hl2 as4 as3 A vs as1 hL ra w1 r0 hI hr hlen htrue
  refine enter_call ?_
  w_shadow S
  refine codeAny_mono ?_ (fun _ _ g => Shadow.goodG S rfl g)
  have he := Dflts.none hD rfl
  subst he
  have he := Dflts.noKw hD
  subst he
  have hd' := fd_plain hd
  have gl : Gl2 (gxOf w q s₀ mg mb) :=
    { len := gb_of T (hnames _ (by simp [bNames])) (by kernel_rfl) (by decide), range := gb_of T (hnames _ (by simp [bNames])) (by kernel_rfl) (by decide), reversed := gb_of T (hnames _ (by simp [bNames])) (by kernel_rfl) (by decide),
      recs := hrecs,
      type := gb_of T (hnames _ (by simp [bNames])) (by kernel_rfl) (by decide), issub := gb_of T (hnames _ (by simp [bNames])) (by kernel_rfl) (by decide), isi := gb_of T (hnames _ (by simp [bNames])) (by kernel_rfl) (by decide),
      str := gb_of T (hnames _ (by simp [bNames])) (by kernel_rfl) (by decide), bytes := gb_of T (hnames _ (by simp [bNames])) (by kernel_rfl) (by decide), min := gb_of T (hnames _ (by simp [bNames])) (by kernel_rfl) (by decide),
      max := gb_of T (hnames _ (by simp [bNames])) (by kernel_rfl) (by decide), sorted := gb_of T (hnames _ (by simp [bNames])) (by kernel_rfl) (by decide), err := hspec }
  refine codeAny_call_def (binds := [("script", .ref A)]) (by decide) ho hd' T.nolimit hcd rfl (.of_eq rfl) (fun x hx => (show ∀ x ∈ (dr 34).scope.names, x.2 ≠ .cell from by decide) x hx) (fun x hx => by rw [List.mem_singleton.mp hx]; rfl) (fun h₁ hN hkeep => ?_)
  obtain ⟨lo', H', e⟩ := law_ev zs (by omega)
  have K1 : Ok (gxOf w q s₀ mg mb) ⟨callerA.deeper (envOf (dr 34).name (dr 34).scope s₁.heap.objs.size fa cd), envOf (dr 34).name (dr 34).scope s₁.heap.objs.size fa cd, [], callerA, s₁.heap, s₁.heap, s₁.heap.objs.size, 10⟩ [] h₁ :=
    ⟨below_caller _, T, T, Around.frames_deeper rfl, rfl, rfl, show callerA.depth + 1 + 10 < recursionLimit from by decide, show callerA.units + 3 + 200 + 10 * 10 < cLine from by decide, ⟨_, hN, hkeep, Nat.le_refl _⟩, fun a ha => (nomatch ha)⟩
  have hr1' : HR [] [] h₁ := ⟨rfl, .nil, fun i a l h => (nomatch h)⟩
  have hlo1 : LO (envOf (dr 34).name (dr 34).scope s₁.heap.objs.size fa cd) lawN [some (.d (.list (zs.map .int))), none] [] h₁ := by
    intro i x v e1 e2
    match i, e1, e2 with
    | 0, e1, e2 =>
      cases e1; cases e2
      exact ⟨rfl, .ref A, ⟨(Bool.and_eq_true_iff.mp (Bool.and_eq_true_iff.mp hL1).1).1, _, PyProof.Rows.Reads.keeps hkeep r0, fun _ _ h => (nomatch h)⟩, .inl ⟨rfl, _, hN, rfl⟩⟩
    | 1, e1, e2 => cases e2
  refine lawP.2 (gxOf w q s₀ mg mb) gl _ fa s₁.heap.objs.size cd (show 4 ≤ 10 from by decide) rfl rfl ⟨⟨rfl, rfl, rfl⟩, rfl, rfl, by decide, .nil⟩ [] _ [] { s₁ with heap := h₁, toks := s₁.toks + 1 } _ _ (.ret (.d (.bool true))) lo' H' ⟨K1, hlo1, hr1', fun _ h => (nomatch h)⟩ e (fun as' f h' tk st P hf => ?_)
  cases f with
  | ret v =>
    have hv := VR.unbool hf
    subst hv
    obtain ⟨m2, F2⟩ := P.ok.F
    exact ⟨_, .bool true, [], rfl, .bool _, rfl, fun _ => ⟨.nil, fun _ ha => (nomatch ha)⟩, .of_keep F2.keep, rfl, .of_eq hg⟩
  | _ => exact hf.elim
end Mine
set_option maxHeartbeats 8000000 in
theorem PySem.Challenge.cw_pd0172_01_holds : PySem.Challenge.rw_pd0172_01.Holds := by
  w_on
  o_law
  o_head Hook.none
  (case hw => w_witness2)
  refine Mine.join ?_ (by decide +kernel) (by kernel_rfl)
  intro k hk
  simp only [List.mem_cons, List.not_mem_nil, or_false] at hk
  rcases hk with rfl | rfl | rfl | rfl | rfl | rfl | rfl | rfl | rfl | rfl | rfl | rfl | rfl | rfl | rfl | rfl | rfl
  · exact List.mem_of_getElem? (i := 1) (by kernel_rfl)
  · exact List.mem_of_getElem? (i := 2) (by kernel_rfl)
  · exact List.mem_of_getElem? (i := 3) (by kernel_rfl)
  · exact List.mem_of_getElem? (i := 4) (by kernel_rfl)
  · exact List.mem_of_getElem? (i := 5) (by kernel_rfl)
  · exact List.mem_of_getElem? (i := 6) (by kernel_rfl)
  · exact List.mem_of_getElem? (i := 9) (by kernel_rfl)
  · exact List.mem_of_getElem? (i := 11) (by kernel_rfl)
  · exact List.mem_of_getElem? (i := 12) (by kernel_rfl)
  · exact List.mem_of_getElem? (i := 13) (by kernel_rfl)
  · exact List.mem_of_getElem? (i := 14) (by kernel_rfl)
  · exact List.mem_of_getElem? (i := 15) (by kernel_rfl)
  · exact List.mem_of_getElem? (i := 16) (by kernel_rfl)
  · exact List.mem_of_getElem? (i := 17) (by kernel_rfl)
  · exact List.mem_of_getElem? (i := 18) (by kernel_rfl)
  · exact List.mem_of_getElem? (i := 19) (by kernel_rfl)
  · exact List.mem_of_getElem? (i := 20) (by kernel_rfl)
