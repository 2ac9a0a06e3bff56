import PyProof.Rows.All
import Wide.All
import OpenK.AllK
import Wide.FinOn
import PySem.Challenge.RW_ty0009_01
open PySem PySem.W PyProof.Rows
set_option Elab.async false
set_option maxRecDepth 100000
set_option maxHeartbeats 8000000
set_option linter.unusedVariables false
namespace Mine
open_top hd for PySem.Challenge.rw_ty0009_01
end Mine
open PySem.Spec PySem.Calls

namespace Mine

inductive MV where
  | none
  | bool (b : Bool)
  | int (i : Int)
  | flt (x : UInt64)
  | str (s : Str)
  | obj (k : Nat)
  | top (v : Value)

noncomputable def RV (ρ : List Addr) : MV → Value → Prop
  | .none, v => v = .none
  | .bool b, v => v = .bool b
  | .int i, v => ∃ t, v = .int i t
  | .flt x, v => ∃ t, v = .float x t
  | .str s, v => ∃ t, v = .str s t
  | .obj k, v => ∃ a, ρ[k]? = some a ∧ v = .ref a
  | .top u, v => v = u

theorem pre_get {ρ ρ' : List Addr} (h : ρ <+: ρ') {k : Nat} {a : Addr} (e : ρ[k]? = some a) : ρ'[k]? = some a := by
  obtain ⟨t, rfl⟩ := h
  have hk : k < ρ.length := (List.getElem?_eq_some_iff.mp e).1
  rw [List.getElem?_append_left hk]; exact e

theorem RV.mono {ρ ρ' : List Addr} (h : ρ <+: ρ') {m : MV} {v : Value} (r : RV ρ m v) : RV ρ' m v := by
  cases m <;> first | exact r | (obtain ⟨a, e, rfl⟩ := r; exact ⟨a, pre_get h e, rfl⟩)

noncomputable def RVs (ρ : List Addr) : List MV → List Value → Prop
  | [], [] => True
  | m :: ms, v :: vs => RV ρ m v ∧ RVs ρ ms vs
  | _, _ => False

theorem RVs.mono {ρ ρ' : List Addr} (h : ρ <+: ρ') : ∀ {ms : List MV} {vs : List Value}, RVs ρ ms vs → RVs ρ' ms vs
  | [], [], _ => trivial
  | _ :: _, _ :: _, r => ⟨r.1.mono h, RVs.mono h r.2⟩
  | [], _ :: _, r => r.elim
  | _ :: _, [], r => r.elim
theorem RVs.length {ρ : List Addr} : ∀ {ms : List MV} {vs : List Value}, RVs ρ ms vs → vs.length = ms.length
  | [], [], _ => rfl
  | _ :: _, _ :: _, r => by rw [List.length_cons, List.length_cons, RVs.length r.2]
  | [], _ :: _, r => r.elim
  | _ :: _, [], r => r.elim
theorem RVs.append {ρ : List Addr} : ∀ {ms ns : List MV} {vs us : List Value}, RVs ρ ms vs → RVs ρ ns us → RVs ρ (ms ++ ns) (vs ++ us)
  | [], _, [], _, _, q => q
  | _ :: _, _, _ :: _, _, r, q => ⟨r.1, RVs.append r.2 q⟩
  | [], _, _ :: _, _, r, _ => r.elim
  | _ :: _, _, [], _, r, _ => r.elim
theorem RVs.get {ρ : List Addr} : ∀ {ms : List MV} {vs : List Value} {i : Nat} {m : MV}, RVs ρ ms vs → ms[i]? = some m → ∃ v, vs[i]? = some v ∧ RV ρ m v
  | _ :: _, v :: _, 0, _, r, e => by cases e; exact ⟨v, rfl, r.1⟩
  | _ :: _, _ :: _, i + 1, _, r, e => by rw [List.getElem?_cons_succ] at e ⊢; exact RVs.get r.2 e
  | [], [], _, _, _, e => by cases e
  | [], _ :: _, _, _, r, _ => r.elim
  | _ :: _, [], _, _, r, _ => r.elim
theorem RVs.get' {ρ : List Addr} : ∀ {ms : List MV} {vs : List Value} {i : Nat} {v : Value}, RVs ρ ms vs → vs[i]? = some v → ∃ m, ms[i]? = some m ∧ RV ρ m v
  | m :: _, _ :: _, 0, _, r, e => by cases e; exact ⟨m, rfl, r.1⟩
  | _ :: _, _ :: _, i + 1, _, r, e => by rw [List.getElem?_cons_succ] at e ⊢; exact RVs.get' r.2 e
  | [], [], _, _, _, e => by cases e
  | [], _ :: _, _, _, r, _ => r.elim
  | _ :: _, [], _, _, r, _ => r.elim
theorem RVs.take {ρ : List Addr} : ∀ {ms : List MV} {vs : List Value} (n : Nat), RVs ρ ms vs → RVs ρ (ms.take n) (vs.take n)
  | _, _, 0, _ => by simp [RVs]
  | [], [], _ + 1, _ => trivial
  | _ :: _, _ :: _, n + 1, r => ⟨r.1, RVs.take n r.2⟩
  | [], _ :: _, _ + 1, r => r.elim
  | _ :: _, [], _ + 1, r => r.elim
theorem RVs.drop {ρ : List Addr} : ∀ {ms : List MV} {vs : List Value} (n : Nat), RVs ρ ms vs → RVs ρ (ms.drop n) (vs.drop n)
  | _, _, 0, r => r
  | [], [], _ + 1, _ => trivial
  | _ :: _, _ :: _, n + 1, r => RVs.drop n r.2
  | [], _ :: _, _ + 1, r => r.elim
  | _ :: _, [], _ + 1, r => r.elim
theorem RVs.set {ρ : List Addr} : ∀ {ms : List MV} {vs : List Value} (n : Nat) {m : MV} {v : Value}, RVs ρ ms vs → RV ρ m v → RVs ρ (ms.set n m) (vs.set n v)
  | [], [], _, _, _, _, _ => trivial
  | _ :: _, _ :: _, 0, _, _, r, q => ⟨q, r.2⟩
  | _ :: _, _ :: _, n + 1, _, _, r, q => ⟨r.1, RVs.set n r.2 q⟩
  | [], _ :: _, _, _, _, r, _ => r.elim
  | _ :: _, [], _, _, _, r, _ => r.elim
theorem RVs.eraseIdx {ρ : List Addr} : ∀ {ms : List MV} {vs : List Value} (n : Nat), RVs ρ ms vs → RVs ρ (ms.eraseIdx n) (vs.eraseIdx n)
  | [], [], _, _ => trivial
  | _ :: _, _ :: _, 0, r => r.2
  | _ :: _, _ :: _, n + 1, r => ⟨r.1, RVs.eraseIdx n r.2⟩
  | [], _ :: _, _, r => r.elim
  | _ :: _, [], _, r => r.elim
theorem RVs.rep {ρ : List Addr} {ms : List MV} {vs : List Value} (r : RVs ρ ms vs) : ∀ n : Nat, RVs ρ (List.replicate n ms).flatten (List.replicate n vs).flatten
  | 0 => trivial
  | n + 1 => by rw [List.replicate_succ, List.replicate_succ, List.flatten_cons, List.flatten_cons]; exact r.append (RVs.rep r n)

inductive MO where
  | list (xs : List MV)
  | tup (xs : List MV)
  | cell (v : Option MV)
  | rng (a b : Int)
  | iter (k i : Nat)
  | gone

noncomputable def RO (ρ : List Addr) : MO → Obj → Prop
  | .list xs, o => ∃ vs n, o = { cls := .type "list", data := .seq (List.toArray vs) n } ∧ RVs ρ xs vs
  | .tup xs, o => ∃ vs n, o = { cls := .type "tuple", data := .seq (List.toArray vs) n } ∧ RVs ρ xs vs
  | .cell (some m), o => ∃ v, o.data = .cell (some v) ∧ RV ρ m v
  | .cell none, o => o.data = .cell none
  | .rng a b, o => ∃ t u v, o = { cls := .type "range", data := .fields #[.int a t, .int b u, .int 1 v] }
  | .iter k i, o => ∃ a, ρ[k]? = some a ∧ o.cls = .type "list_iterator" ∧ o.data = .fields #[.ref a, .int i 0]
  | .gone, _ => True

theorem RO.mono {ρ ρ' : List Addr} (h : ρ <+: ρ') {m : MO} {o : Obj} (r : RO ρ m o) : RO ρ' m o := by
  cases m with
  | list xs => obtain ⟨vs, n, e, q⟩ := r; exact ⟨vs, n, e, q.mono h⟩
  | tup xs => obtain ⟨vs, n, e, q⟩ := r; exact ⟨vs, n, e, q.mono h⟩
  | cell v => cases v with
    | none => exact r
    | some m => obtain ⟨v, e, q⟩ := r; exact ⟨v, e, q.mono h⟩
  | rng a b => exact r
  | iter k i => obtain ⟨a, e, q⟩ := r; exact ⟨a, pre_get h e, q⟩
  | gone => trivial

abbrev Loc := List (Str × MV)

structure Gl where
  prog : Program
  w : World
  K : Frag
  p : Program
  loose : List Str
  mean : ExcName → Option Value
  mg : Str → Option Value
  mb : Str → Option Value
  H₀ : Heap
  X : K.In H₀
  T : Top p loose mean mg mb H₀

noncomputable def frs (fr : List Env) : List Addr := fr.filterMap (·.frame)

structure Rel (G : Gl) (fr : List Env) (L : Addr) (ρ : List Addr) (loc : Loc) (σ : List MO) (h : Heap) : Prop where
  base : ∀ b o, G.H₀.get? b = some o → h.get? b = some o
  len : ρ.length = σ.length
  nodup : ρ.Nodup
  lo : ∀ a ∈ ρ, G.H₀.get? a = none
  nL : L ∉ ρ
  loL : G.H₀.get? L = none
  objs : ∀ (k : Nat) mo a, σ[k]? = some mo → ρ[k]? = some a → ∃ o, h.get? a = some o ∧ RO ρ mo o
  ns : ∃ m, h.Ns L m ∧ ∀ x v, loc.lookup x = some v → ∃ v', m x = some v' ∧ RV ρ v v'
  ff : h.FunFrames G.H₀ fr
  frn : ∀ b ∈ frs fr, b ∉ ρ

structure Step (fr : List Env) (ρ ρ' : List Addr) (L : Addr) (h h' : Heap) : Prop where
  pre : ρ <+: ρ'
  keep : ∀ b o, b ∉ ρ → b ≠ L → h.get? b = some o → ∃ o', h'.get? b = some o' ∧ (o' = o ∨ (b ∈ frs fr ∧ ∃ sl, o' = { o with slots := sl }))
  fresh : ∀ a ∈ ρ', a ∉ ρ → h.get? a = none
  nL : L ∉ ρ → L ∉ ρ'

theorem Step.refl {fr : List Env} {ρ : List Addr} {L : Addr} {h : Heap} : Step fr ρ ρ L h h :=
  ⟨List.prefix_rfl, fun _ o _ _ e => ⟨o, e, .inl rfl⟩, fun _ ha hn => absurd ha hn, id⟩
theorem Step.trans {fr : List Env} {ρ ρ' ρ'' : List Addr} {L : Addr} {h h' h'' : Heap} (x : Step fr ρ ρ' L h h') (y : Step fr ρ' ρ'' L h' h'') : Step fr ρ ρ'' L h h'' := by
  refine ⟨x.pre.trans y.pre, fun b o hb hL e => ?_, fun a ha hn => ?_, fun q => y.nL (x.nL q)⟩
  · obtain ⟨o', e', q⟩ := x.keep b o hb hL e
    have hb' : b ∉ ρ' := fun hm => by rw [x.fresh b hm hb] at e; cases e
    obtain ⟨o'', e'', q'⟩ := y.keep b o' hb' hL e'
    refine ⟨o'', e'', ?_⟩
    rcases q with rfl | ⟨hf, sl, rfl⟩
    · exact q'
    · rcases q' with rfl | ⟨_, sl', rfl⟩
      · exact .inr ⟨hf, sl, rfl⟩
      · exact .inr ⟨hf, sl', rfl⟩
  · by_cases hm : a ∈ ρ'
    · exact x.fresh a hm hn
    · have h1 := y.fresh a ha hm
      cases e : h.get? a with
      | none => rfl
      | some o =>
        exfalso
        by_cases hL : a = L
        · subst hL; exact y.nL (x.nL hn) ha
        · obtain ⟨o', e', _⟩ := x.keep a o hn hL e
          rw [h1] at e'; cases e'

section
variable {G : Gl} {fr : List Env} {L : Addr} {ρ : List Addr} {loc : Loc} {σ : List MO} {h h' : Heap}

theorem Rel.obj (r : Rel G fr L ρ loc σ h) {k : Nat} {mo : MO} (e : σ[k]? = some mo) : ∃ a o, ρ[k]? = some a ∧ h.get? a = some o ∧ RO ρ mo o := by
  have hk : k < σ.length := (List.getElem?_eq_some_iff.mp e).1
  have hr : k < ρ.length := by rw [r.len]; exact hk
  obtain ⟨o, ho, q⟩ := r.objs k mo ρ[k] e (List.getElem?_eq_getElem hr)
  exact ⟨ρ[k], o, List.getElem?_eq_getElem hr, ho, q⟩
theorem Rel.live (r : Rel G fr L ρ loc σ h) {a : Addr} (ha : a ∈ ρ) : ∃ o, h.get? a = some o := by
  obtain ⟨k, hk, rfl⟩ := List.getElem_of_mem ha
  have hs : k < σ.length := by rw [← r.len]; exact hk
  obtain ⟨o, ho, _⟩ := r.objs k σ[k] ρ[k] (List.getElem?_eq_getElem hs) (List.getElem?_eq_getElem hk)
  exact ⟨o, ho⟩
theorem Rel.ltL (r : Rel G fr L ρ loc σ h) : L < h.objs.size := let ⟨_, hn, _⟩ := r.ns; hn.lt
theorem Rel.size_notin (r : Rel G fr L ρ loc σ h) : h.objs.size ∉ ρ := fun hm => by
  obtain ⟨o, ho⟩ := r.live hm
  exact absurd (Heap.lt_size ho) (Nat.lt_irrefl _)
theorem Rel.base_none (r : Rel G fr L ρ loc σ h) : G.H₀.get? h.objs.size = none := by
  cases e : G.H₀.get? h.objs.size with
  | none => rfl
  | some o => exact absurd (Heap.lt_size (r.base _ _ e)) (Nat.lt_irrefl _)
theorem ff_lt {base : Heap} {l : List Env} (hl : h.FunFrames base l) {b : Addr} (hb : b ∈ frs l) : b < h.objs.size := by
  obtain ⟨_, o, ho, _⟩ := hl.mem hb
  exact Heap.lt_size ho

theorem ff_of {base : Heap} : ∀ {l : List Env}, h.FunFrames base l → (∀ b ∈ frs l, ∀ o, h.get? b = some o → (∀ vs, o.data ≠ .fields vs) → ∃ o', h'.get? b = some o' ∧ ∀ vs, o'.data ≠ .fields vs) → h'.FunFrames base l
  | [], _, _ => trivial
  | env :: rest, ⟨h1, ⟨M, o, hf, hn, hg, hd⟩, hr⟩, k => by
    have hM : M ∈ frs (env :: rest) := by simp [frs, hf]
    obtain ⟨o', e, d⟩ := k M hM o hg hd
    refine ⟨h1, ⟨M, o', hf, hn, e, d⟩, ff_of hr fun b hb => k b ?_⟩
    simp only [frs, List.filterMap_cons, hf] at hb ⊢
    exact List.mem_cons_of_mem _ hb

theorem Rel.push (r : Rel G fr L ρ loc σ h) {mo : MO} {o : Obj} (ho : RO ρ mo o) (hf : o.isFreed = false) :
    Rel G fr L (ρ ++ [h.objs.size]) loc (σ ++ [mo]) (h.push o) where
  base := fun b o' e => Heap.get?_push_of_some _ (r.base b o' e)
  len := by simp [r.len]
  nodup := by
    rw [List.nodup_append]
    refine ⟨r.nodup, by simp, fun a ha b hb => ?_⟩
    rw [List.mem_singleton.mp hb]
    rintro rfl
    exact r.size_notin ha
  lo := fun a ha => by
    rcases List.mem_append.mp ha with h1 | h1
    · exact r.lo a h1
    · rw [List.mem_singleton.mp h1]; exact r.base_none
  nL := fun hm => by
    rcases List.mem_append.mp hm with h1 | h1
    · exact r.nL h1
    · exact absurd r.ltL (by rw [List.mem_singleton.mp h1]; exact Nat.lt_irrefl _)
  loL := r.loL
  objs := fun k mo' a e1 e2 => by
    have pre : ρ <+: ρ ++ [h.objs.size] := List.prefix_append _ _
    by_cases hk : k < σ.length
    · rw [List.getElem?_append_left hk] at e1
      rw [List.getElem?_append_left (by rw [r.len]; exact hk)] at e2
      obtain ⟨o', ho', q⟩ := r.objs k mo' a e1 e2
      exact ⟨o', Heap.get?_push_of_some _ ho', q.mono pre⟩
    · have hk' : k = σ.length := by
        have := (List.getElem?_eq_some_iff.mp e1).1
        simp at this; lia
      subst hk'
      rw [List.getElem?_append_right (Nat.le_refl _)] at e1
      rw [List.getElem?_append_right (by rw [r.len]; exact Nat.le_refl _)] at e2
      simp at e1
      simp [r.len] at e2
      subst e1; subst e2
      exact ⟨o, Heap.get?_push_size _ hf, ho.mono pre⟩
  ns := by
    obtain ⟨m, ⟨o', es, ep, e, q⟩, hm⟩ := r.ns
    exact ⟨m, ⟨o', es, ep, Heap.get?_push_of_some _ e, q⟩, fun x v hx => let ⟨v', e1, e2⟩ := hm x v hx; ⟨v', e1, e2.mono (List.prefix_append _ _)⟩⟩
  ff := r.ff.of_keeps fun b o' e _ => ⟨o', Heap.get?_push_of_some _ e, rfl⟩
  frn := fun b hb hm => by
    rcases List.mem_append.mp hm with h1 | h1
    · exact r.frn b hb h1
    · exact absurd (ff_lt r.ff hb) (by rw [List.mem_singleton.mp h1]; exact Nat.lt_irrefl _)
theorem Rel.pushStep (r : Rel G fr L ρ loc σ h) (o : Obj) : Step fr ρ (ρ ++ [h.objs.size]) L h (h.push o) :=
  ⟨List.prefix_append _ _, fun b o' _ _ e => ⟨o', Heap.get?_push_of_some _ e, .inl rfl⟩, fun a ha hn => by
    rcases List.mem_append.mp ha with h1 | h1
    · exact absurd h1 hn
    · rw [List.mem_singleton.mp h1]
      cases e : h.get? h.objs.size with
      | none => rfl
      | some o' => exact absurd (Heap.lt_size e) (Nat.lt_irrefl _), fun q hm => by
    rcases List.mem_append.mp hm with h1 | h1
    · exact q h1
    · exact absurd r.ltL (by rw [List.mem_singleton.mp h1]; exact Nat.lt_irrefl _)⟩

theorem Rel.ext (r : Rel G fr L ρ loc σ h) (hk : ∀ b o, h.get? b = some o → h'.get? b = some o) : Rel G fr L ρ loc σ h' where
  base := fun b o' e => hk _ _ (r.base b o' e)
  len := r.len
  nodup := r.nodup
  lo := r.lo
  nL := r.nL
  loL := r.loL
  objs := fun k mo a e1 e2 => let ⟨o, ho, q⟩ := r.objs k mo a e1 e2; ⟨o, hk _ _ ho, q⟩
  ns := by
    obtain ⟨m, ⟨o', es, ep, e, q⟩, hm⟩ := r.ns
    exact ⟨m, ⟨o', es, ep, hk _ _ e, q⟩, hm⟩
  ff := r.ff.of_keeps fun b o' e _ => ⟨o', hk _ _ e, rfl⟩
  frn := r.frn
theorem Step.ext {fr : List Env} {ρ : List Addr} {L : Addr} {h h' : Heap} (hk : ∀ b o, h.get? b = some o → h'.get? b = some o) : Step fr ρ ρ L h h' :=
  ⟨List.prefix_rfl, fun _ o _ _ e => ⟨o, hk _ _ e, .inl rfl⟩, fun _ ha hn => absurd ha hn, id⟩

theorem Rel.update (r : Rel G fr L ρ loc σ h) {k : Nat} {a : Addr} {mo : MO} {o : Obj} (ea : ρ[k]? = some a) (hs : ∀ b o, b ≠ a → h.get? b = some o → h'.get? b = some o) (ho : h'.get? a = some o) (q : RO ρ mo o) :
    Rel G fr L ρ loc (σ.set k mo) h' where
  base := fun b o' e => hs b o' (fun q => by
    have hm : a ∈ ρ := List.mem_of_getElem? ea
    have := r.lo a hm
    rw [← q, e] at this; cases this) (r.base b o' e)
  len := by simp [r.len]
  nodup := r.nodup
  lo := r.lo
  nL := r.nL
  loL := r.loL
  objs := fun j mo' b e1 e2 => by
    by_cases hj : j = k
    · subst hj
      rw [ea] at e2; cases e2
      have : j < σ.length := by
        have := (List.getElem?_eq_some_iff.mp ea).1
        rw [← r.len]; exact this
      rw [List.getElem?_set_self this] at e1
      cases e1
      exact ⟨o, ho, q⟩
    · rw [List.getElem?_set_ne (Ne.symm hj)] at e1
      obtain ⟨o', ho', q'⟩ := r.objs j mo' b e1 e2
      refine ⟨o', hs b o' ?_ ho', q'⟩
      rintro rfl
      have h1 := (List.getElem?_eq_some_iff.mp e2)
      have h2 := (List.getElem?_eq_some_iff.mp ea)
      exact hj ((List.getElem_inj r.nodup).mp (h1.2.trans h2.2.symm))
  ns := by
    obtain ⟨m, ⟨o', es, ep, e, q⟩, hm⟩ := r.ns
    exact ⟨m, ⟨o', es, ep, hs _ _ (fun q => r.nL (by rw [q]; exact List.mem_of_getElem? ea)) e, q⟩, hm⟩
  ff := ff_of r.ff fun b hb o' e hd => ⟨o', hs b o' (fun q => r.frn b hb (by rw [q]; exact List.mem_of_getElem? ea)) e, hd⟩
  frn := r.frn
theorem Step.update {fr : List Env} {ρ : List Addr} {L : Addr} {h h' : Heap} {k : Nat} {a : Addr} (ea : ρ[k]? = some a) (hs : ∀ b o, b ≠ a → h.get? b = some o → h'.get? b = some o) : Step fr ρ ρ L h h' :=
  ⟨List.prefix_rfl, fun b o hb _ e => ⟨o, hs b o (fun q => hb (by rw [q]; exact List.mem_of_getElem? ea)) e, .inl rfl⟩, fun _ ha hn => absurd ha hn, id⟩

theorem Rel.store (r : Rel G fr L ρ loc σ h) {x : Str} {mv : MV} {v : Value} (q : RV ρ mv v) {m : Str → Option Value} (hm : ∀ x v, loc.lookup x = some v → ∃ v', m x = some v' ∧ RV ρ v v')
    (hn : h'.Ns L (fun y => if y = x then some v else m y)) (hs : Heap.SameBut L h h') : Rel G fr L ρ ((x, mv) :: loc) σ h' where
  base := fun b o' e => (hs.2 b (fun q => by rw [q, r.loL] at e; cases e)).trans (r.base b o' e)
  len := r.len
  nodup := r.nodup
  lo := r.lo
  nL := r.nL
  loL := r.loL
  objs := fun k mo a e1 e2 => let ⟨o, ho, q⟩ := r.objs k mo a e1 e2; ⟨o, (hs.2 a (fun q => r.nL (by rw [← q]; exact List.mem_of_getElem? e2))).trans ho, q⟩
  ns := ⟨_, hn, fun y u hy => by
    rw [List.lookup_cons] at hy
    by_cases e : y = x
    · subst e
      simp at hy
      subst hy
      exact ⟨v, by simp, q⟩
    · have : (y == x) = false := beq_eq_false_iff_ne.mpr e
      rw [this] at hy
      obtain ⟨v', e1, e2⟩ := hm y u hy
      exact ⟨v', by simp [e, e1], e2⟩⟩
  ff := ff_of r.ff fun b _ o' e hd => by
    by_cases hb : b = L
    · subst hb
      obtain ⟨o1, es, ep, e1, d1, _⟩ := hn
      exact ⟨o1, e1, fun vs hv => by rw [d1] at hv; cases hv⟩
    · exact ⟨o', (hs.2 b hb).trans e, hd⟩
  frn := r.frn
theorem Step.store {fr : List Env} {ρ : List Addr} {L : Addr} {h h' : Heap} (hs : Heap.SameBut L h h') : Step fr ρ ρ L h h' :=
  ⟨List.prefix_rfl, fun b o _ hL e => ⟨o, (hs.2 b hL).trans e, .inl rfl⟩, fun _ ha hn => absurd ha hn, id⟩
end

end Mine

namespace Mine

structure Cx where
  scope : Scope
  cells : List (Str × Nat)

structure Act (cx : Cx) (ρ : List Addr) (L : Addr) (env : Env) : Prop where
  loc : env.locals = L
  glob : env.globals = mainGlobals
  blt : env.builtins = builtinsNs
  scope : env.scope = cx.scope
  cells : ∀ x k, cx.cells.lookup x = some k → ∃ a, ρ[k]? = some a ∧ env.cells.lookup x = some a

theorem Act.mono {cx : Cx} {ρ ρ' : List Addr} {L : Addr} {env : Env} (a : Act cx ρ L env) (h : ρ <+: ρ') : Act cx ρ' L env :=
  ⟨a.loc, a.glob, a.blt, a.scope, fun x k e => let ⟨b, e1, e2⟩ := a.cells x k e; ⟨b, pre_get h e1, e2⟩⟩
theorem Act.kindOf {cx : Cx} {ρ : List Addr} {L : Addr} {env : Env} (a : Act cx ρ L env) {x : Str} {k : Option NameKind} (h : cx.scope.names.lookup x = k) : env.kindOf x = k := by
  unfold Env.kindOf; rw [a.scope]; exact h
theorem Act.kind {cx : Cx} {ρ : List Addr} {L : Addr} {env : Env} (a : Act cx ρ L env) (h : cx.scope.kind = .function) : env.scope.kind = .function := by rw [a.scope]; exact h
theorem Act.plain {cx : Cx} {ρ : List Addr} {L : Addr} {env : Env} (a : Act cx ρ L env) (h : cx.scope.kind = .function) : (env.scope.kind == .class || (env.scope.kind == .module && env.locals != env.globals)) = false := by
  rw [a.kind h]; rfl

structure OkA (n : Nat) (fr : List Env) (A : Around) : Prop where
  handled : A.handled = none
  depth : A.depth + n < recursionLimit
  units : A.units + 16 * n + 8 < cLine
  frames : A.frames = some fr

noncomputable def NoE : Value → Shared → Prop := fun _ _ => False

noncomputable def W (G : Gl) (n : Nat) (cx : Cx) {α β : Type} (RR : List Addr → β → α → Prop) (t : Env → Sem α) (loc : Loc) (σ : List MO) (P : β → Loc → List MO → Prop) : Prop :=
  ∀ (A : Around) (fr : List Env) (env : Env) (L : Addr) (ρ : List Addr) (s : Shared) (Q : α → Shared → Prop), OkA n fr A → Act cx ρ L env → Rel G fr L ρ loc σ s.heap →
    (∀ ρ' b a loc' σ' h' tk', Step fr ρ ρ' L s.heap h' → RR ρ' b a → Rel G fr L ρ' loc' σ' h' → P b loc' σ' → Q a { s with heap := h', toks := tk' }) →
    wpAny (model G.prog G.w) A (t env) Q NoE s

noncomputable def O (G : Gl) (n : Nat) {α β : Type} (RR : List Addr → β → α → Prop) (vs : List MV) (t : List Value → Sem α) (σ : List MO) (P : β → List MO → Prop) : Prop :=
  ∀ (A : Around) (fr : List Env) (L : Addr) (ρ : List Addr) (loc : Loc) (us : List Value) (s : Shared) (Q : α → Shared → Prop), OkA n fr A → Rel G fr L ρ loc σ s.heap → RVs ρ vs us →
    (∀ ρ' b a σ' h' tk', Step fr ρ ρ' L s.heap h' → RR ρ' b a → Rel G fr L ρ' loc σ' h' → P b σ' → Q a { s with heap := h', toks := tk' }) →
    wpAny (model G.prog G.w) A (t us) Q NoE s

noncomputable def WE (G : Gl) (n : Nat) (cx : Cx) (e : Expr) (loc : Loc) (σ : List MO) (P : MV → List MO → Prop) : Prop :=
  W G n cx RV (eval e) loc σ fun v l σ' => loc = l ∧ P v σ'
noncomputable def RB : List Addr → Bool → Bool → Prop := fun _ b a => a = b
noncomputable def WB (G : Gl) (n : Nat) (cx : Cx) (e : Expr) (loc : Loc) (σ : List MO) (P : Bool → List MO → Prop) : Prop :=
  W G n cx RB (fun env => isTrue e env (eval e env)) loc σ fun b l σ' => loc = l ∧ P b σ'
noncomputable def Bin (op : Operator) (us : List Value) : Sem Value := match us with | [a, b] => binaryOp op a b | _ => unsupported ""
noncomputable def Inp (op : Operator) (us : List Value) : Sem Value := match us with | [a, b] => inplaceOp op a b | _ => unsupported ""
noncomputable def Cmp (op : CmpOp) (us : List Value) : Sem Value := match us with | [a, b] => compareOp op a b | _ => unsupported ""
noncomputable def Tru (us : List Value) : Sem Bool := match us with | [a] => truthy a | _ => unsupported ""
abbrev OBin (G : Gl) (n : Nat) (op : Operator) (a b : MV) (σ : List MO) (P : MV → List MO → Prop) : Prop := O G n RV [a, b] (Bin op) σ P
abbrev OInp (G : Gl) (n : Nat) (op : Operator) (a b : MV) (σ : List MO) (P : MV → List MO → Prop) : Prop := O G n RV [a, b] (Inp op) σ P
abbrev OCmp (G : Gl) (n : Nat) (op : CmpOp) (a b : MV) (σ : List MO) (P : MV → List MO → Prop) : Prop := O G n RV [a, b] (Cmp op) σ P
abbrev OTru (G : Gl) (n : Nat) (a : MV) (σ : List MO) (P : Bool → List MO → Prop) : Prop := O G n RB [a] Tru σ P

section
variable {G : Gl} {n : Nat} {cx : Cx} {loc : Loc} {σ : List MO} {P : MV → List MO → Prop}

theorem O.now {α β : Type} {RR : List Addr → β → α → Prop} {vs : List MV} {t : List Value → Sem α} {P : β → List MO → Prop} (b : β)
    (h : ∀ A fr ρ us (s : Shared) (Q : α → Shared → Prop), OkA n fr A → RVs ρ vs us → (∀ a tk', RR ρ b a → Q a { s with toks := tk' }) → wpAny (model G.prog G.w) A (t us) Q NoE s) (hP : P b σ) : O G n RR vs t σ P :=
  fun A fr _ ρ _ us s Q hA hrel hus hQ => h A fr ρ us s Q hA hus fun a tk' hr => hQ ρ b a σ s.heap tk' .refl hr hrel hP

theorem WE.bin {l r : Expr} {op : Operator} {pos : Pos} (h : WE G n cx l loc σ fun a σ₁ => WE G n cx r loc σ₁ fun b σ₂ => OBin G n op a b σ₂ P) : WE G n cx (.BinOp l op r pos) loc σ P := by
  intro A fr env L ρ s Q hA hact hrel hQ
  refine wpAny_BinOp (h A fr env L ρ s _ hA hact hrel ?_)
  rintro ρ₁ a va _ σ₁ h₁ t₁ S₁ R₁ rel₁ ⟨rfl, hP₁⟩
  refine hP₁ A fr env L ρ₁ _ _ hA (hact.mono S₁.pre) rel₁ ?_
  rintro ρ₂ b vb _ σ₂ h₂ t₂ S₂ R₂ rel₂ ⟨rfl, hP₂⟩
  refine hP₂ A fr L ρ₂ _ [va, vb] _ _ hA rel₂ ⟨R₁.mono S₂.pre, R₂, trivial⟩ ?_
  rintro ρ₃ v vv σ₃ h₃ t₃ S₃ R₃ rel₃ hP₃
  exact hQ ρ₃ v vv _ σ₃ h₃ t₃ (S₁.trans (S₂.trans S₃)) R₃ rel₃ ⟨rfl, hP₃⟩

theorem WE.cmp {l r : Expr} {op : CmpOp} {pos : Pos} (h : WE G n cx l loc σ fun a σ₁ => WE G n cx r loc σ₁ fun b σ₂ => OCmp G n op a b σ₂ P)
    (hm : behindInMarks op r = false := by with_unfolding_all rfl) : WE G n cx (.Compare l [op] [r] pos) loc σ P := by
  intro A fr env L ρ s Q hA hact hrel hQ
  refine wpAny_Compare1 (h A fr env L ρ s _ hA hact hrel ?_) hm
  rintro ρ₁ a va _ σ₁ h₁ t₁ S₁ R₁ rel₁ ⟨rfl, hP₁⟩
  refine hP₁ A fr env L ρ₁ _ _ hA (hact.mono S₁.pre) rel₁ ?_
  rintro ρ₂ b vb _ σ₂ h₂ t₂ S₂ R₂ rel₂ ⟨rfl, hP₂⟩
  refine hP₂ A fr L ρ₂ _ [va, vb] _ _ hA rel₂ ⟨R₁.mono S₂.pre, R₂, trivial⟩ ?_
  rintro ρ₃ v vv σ₃ h₃ t₃ S₃ R₃ rel₃ hP₃
  exact hQ ρ₃ v vv _ σ₃ h₃ t₃ (S₁.trans (S₂.trans S₃)) R₃ rel₃ ⟨rfl, hP₃⟩

theorem WB.cmp {l r : Expr} {op : CmpOp} {pos : Pos} {P : Bool → List MO → Prop} (h : WE G n cx l loc σ fun a σ₁ => WE G n cx r loc σ₁ fun b σ₂ => OCmp G n op a b σ₂ fun c σ₃ => OTru G n c σ₃ P)
    (hm : behindInMarks op r = false := by with_unfolding_all rfl) : WB G n cx (.Compare l [op] [r] pos) loc σ P := by
  intro A fr env L ρ s Q hA hact hrel hQ
  refine wpAny_isTrue_Compare1 (h A fr env L ρ s _ hA hact hrel ?_) hm
  rintro ρ₁ a va _ σ₁ h₁ t₁ S₁ R₁ rel₁ ⟨rfl, hP₁⟩
  refine hP₁ A fr env L ρ₁ _ _ hA (hact.mono S₁.pre) rel₁ ?_
  rintro ρ₂ b vb _ σ₂ h₂ t₂ S₂ R₂ rel₂ ⟨rfl, hP₂⟩
  refine hP₂ A fr L ρ₂ _ [va, vb] _ _ hA rel₂ ⟨R₁.mono S₂.pre, R₂, trivial⟩ ?_
  rintro ρ₃ v vv σ₃ h₃ t₃ S₃ R₃ rel₃ hP₃
  refine hP₃ A fr L ρ₃ _ [vv] _ _ hA rel₃ ⟨R₃, trivial⟩ ?_
  rintro ρ₄ c vc σ₄ h₄ t₄ S₄ R₄ rel₄ hP₄
  exact hQ ρ₄ c vc _ σ₄ h₄ t₄ (S₁.trans (S₂.trans (S₃.trans S₄))) R₄ rel₄ ⟨rfl, hP₄⟩

theorem WE.ife {t a b : Expr} {pos : Pos} (h : WB G n cx t loc σ fun c σ₁ => (c = true → WE G n cx a loc σ₁ P) ∧ (c = false → WE G n cx b loc σ₁ P)) : WE G n cx (.IfExp t a b pos) loc σ P := by
  intro A fr env L ρ s Q hA hact hrel hQ
  refine wpAny_IfExp (h A fr env L ρ s _ hA hact hrel ?_)
  rintro ρ₁ c vc _ σ₁ h₁ t₁ S₁ R₁ rel₁ ⟨rfl, hP₁⟩
  cases R₁
  have fin : ∀ e, WE G n cx e loc σ₁ P → wpAny (model G.prog G.w) A (eval e env) Q NoE { s with heap := h₁, toks := t₁ } := fun e he => by
    refine he A fr env L ρ₁ _ _ hA (hact.mono S₁.pre) rel₁ ?_
    rintro ρ₂ b vb _ σ₂ h₂ t₂ S₂ R₂ rel₂ ⟨rfl, hP₂⟩
    exact hQ ρ₂ b vb _ σ₂ h₂ t₂ (S₁.trans S₂) R₂ rel₂ ⟨rfl, hP₂⟩
  cases c with
  | true => exact fin a (hP₁.1 rfl)
  | false => exact fin b (hP₁.2 rfl)

theorem WE.int {i : Int} {k : Nat} {pos : Pos} (h : P (.int i) σ) : WE G n cx (.Constant (.int i) k pos) loc σ P := by
  intro A fr env L ρ s Q hA hact hrel hQ
  exact wpAny_Constant_int (hQ ρ (.int i) _ loc σ s.heap _ .refl ⟨_, rfl⟩ hrel ⟨rfl, h⟩)
theorem WE.flt {x : UInt64} {k : Nat} {pos : Pos} (h : P (.flt x) σ) : WE G n cx (.Constant (.float x) k pos) loc σ P := by
  intro A fr env L ρ s Q hA hact hrel hQ
  exact fun _ _ _ => hQ ρ (.flt x) _ loc σ s.heap _ .refl ⟨_, rfl⟩ hrel ⟨rfl, h⟩
theorem WE.str {x : Str} {k : Nat} {pos : Pos} (h : P (.str x) σ) : WE G n cx (.Constant (.str x) k pos) loc σ P := by
  intro A fr env L ρ s Q hA hact hrel hQ
  exact Constant_str (hQ ρ (.str x) _ loc σ s.heap _ .refl ⟨_, rfl⟩ hrel ⟨rfl, h⟩)
theorem WE.bool {b : Bool} {k : Nat} {pos : Pos} (h : P (.bool b) σ) : WE G n cx (.Constant (.bool b) k pos) loc σ P := by
  intro A fr env L ρ s Q hA hact hrel hQ
  exact fun _ _ _ => hQ ρ (.bool b) _ loc σ s.heap s.toks .refl rfl hrel ⟨rfl, h⟩

noncomputable def WL (G : Gl) (n : Nat) (cx : Cx) (x : Str) (loc : Loc) (σ : List MO) (P : MV → List MO → Prop) : Prop :=
  W G n cx RV (fun env => loadName env x) loc σ fun v l σ' => loc = l ∧ P v σ'
theorem WE.name {x : Str} {pos : Pos} (h : WL G n cx x loc σ P) (hd : (x == ("__debug__" : Str)) = false := by decide) : WE G n cx (.Name x pos) loc σ P :=
  fun A fr env L ρ s Q hA hact hrel hQ => wpAny_Name (h A fr env L ρ s Q hA hact hrel hQ) hd
theorem WL.l {x : Str} {v : MV} (hk : cx.scope.kind = .function) (hx : cx.scope.names.lookup x = some .local) (hv : loc.lookup x = some v) (h : P v σ) : WL G n cx x loc σ P := by
  intro A fr env L ρ s Q hA hact hrel hQ
  obtain ⟨m, hn, hm⟩ := hrel.ns
  obtain ⟨u, e, r⟩ := hm x v hv
  refine wpAny_loadName_local (hact.kind hk) (hact.kindOf hx) (by rw [hact.loc]; exact hn) e ?_
  exact hQ ρ v u loc σ s.heap s.toks .refl r hrel ⟨rfl, h⟩
theorem WL.c {x : Str} {v : MV} {k : Nat} (hk : cx.scope.kind = .function) (hx : cx.scope.names.lookup x = some .cell ∨ cx.scope.names.lookup x = some .free) (hc : cx.cells.lookup x = some k) (hv : σ[k]? = some (.cell (some v))) (h : P v σ)
    (hd' : (x == ("__classdict__" : Str)) = false := by decide) : WL G n cx x loc σ P := by
  intro A fr env L ρ s Q hA hact hrel hQ
  obtain ⟨a, ea, el⟩ := hact.cells x k hc
  obtain ⟨o, ho, u, hd1, r⟩ := hrel.objs k _ a hv ea
  have fin := hQ ρ v u loc σ s.heap s.toks .refl r hrel ⟨rfl, h⟩
  rcases hx with hx | hx
  · exact wpAny_loadName_cell (hact.kind hk) (hact.kindOf hx) el ⟨o, ho, hd1⟩ fin
  · exact wpAny_loadName_free (hact.kind hk) (hact.kindOf hx) el ⟨o, ho, hd1⟩ fin hd'
theorem Rel.keepB {fr : List Env} {L : Addr} {ρ : List Addr} {h : Heap} (r : Rel G fr L ρ loc σ h) : ∀ b o, G.H₀.get? b = some o → h.get? b = some o := r.base
theorem WL.g {x : Str} {v : Value} (hk : cx.scope.kind = .function) (hx : cx.scope.names.lookup x = some .globalImplicit) (he : nsIn G.K mainGlobals x = some (some v)) (h : P (.top v) σ) : WL G n cx x loc σ P := by
  intro A fr env L ρ s Q hA hact hrel hQ
  exact ks_loadName_global (hact.kind hk) (hact.kindOf hx) (loadGlobal_global (env := env) (by rw [hact.glob]; exact G.T.g.keeps hrel.base) (mg_of G.X G.T.g he) (hQ ρ (.top v) v loc σ s.heap s.toks .refl rfl hrel ⟨rfl, h⟩))
theorem WL.gs {x : Str} {u : Str} {t : Tok} (hk : cx.scope.kind = .function) (hx : cx.scope.names.lookup x = some .globalImplicit) (he : nsIn G.K mainGlobals x = some (some (.str u t))) (h : P (.str u) σ) : WL G n cx x loc σ P := by
  intro A fr env L ρ s Q hA hact hrel hQ
  exact ks_loadName_global (hact.kind hk) (hact.kindOf hx) (loadGlobal_global (env := env) (by rw [hact.glob]; exact G.T.g.keeps hrel.base) (mg_of G.X G.T.g he) (hQ ρ (.str u) _ loc σ s.heap s.toks .refl ⟨_, rfl⟩ hrel ⟨rfl, h⟩))
theorem WL.b {x : Str} {v : Value} (hk : cx.scope.kind = .function) (hx : cx.scope.names.lookup x = some .globalImplicit) (he : nsIn G.K mainGlobals x = some none) (hv : bootBuiltins x = some v) (hn : x ≠ "__name__") (h : P (.top v) σ) : WL G n cx x loc σ P := by
  intro A fr env L ρ s Q hA hact hrel hQ
  exact ks_loadName_global (hact.kind hk) (hact.kindOf hx) (loadGlobal_builtin (env := env) (by rw [hact.glob]; exact G.T.g.keeps hrel.base) (mg_none_of G.X G.T.g he) (by rw [hact.blt]; exact G.T.b.keeps hrel.base) ((G.T.builtins x hn).trans hv)
    (hQ ρ (.top v) v loc σ s.heap s.toks .refl rfl hrel ⟨rfl, h⟩))
end
end Mine

namespace Mine

section
variable {G : Gl} {n : Nat} {σ : List MO}

theorem O.now1 {α β : Type} {RR : List Addr → β → α → Prop} {x : MV} {t : List Value → Sem α} {P : β → List MO → Prop} (b : β)
    (h : ∀ A fr ρ u (s : Shared) (Q : α → Shared → Prop), OkA n fr A → RV ρ x u → (∀ a tk', RR ρ b a → Q a { s with toks := tk' }) → wpAny (model G.prog G.w) A (t [u]) Q NoE s) (hP : P b σ) : O G n RR [x] t σ P :=
  .now b (fun A fr ρ us s Q hA hus hq => match us, hus with | [u], r => h A fr ρ u s Q hA r.1 hq) hP
theorem O.now2 {α β : Type} {RR : List Addr → β → α → Prop} {x y : MV} {t : List Value → Sem α} {P : β → List MO → Prop} (b : β)
    (h : ∀ A fr ρ u v (s : Shared) (Q : α → Shared → Prop), OkA n fr A → RV ρ x u → RV ρ y v → (∀ a tk', RR ρ b a → Q a { s with toks := tk' }) → wpAny (model G.prog G.w) A (t [u, v]) Q NoE s) (hP : P b σ) : O G n RR [x, y] t σ P :=
  .now b (fun A fr ρ us s Q hA hus hq => match us, hus with | [u, v], r => h A fr ρ u v s Q hA r.1 r.2.1 hq) hP
theorem O.ints {α β : Type} {RR : List Addr → β → α → Prop} {x y : Int} {t : List Value → Sem α} {P : β → List MO → Prop} (b : β)
    (h : ∀ (A : Around) ρ tx ty (s : Shared) (Q : α → Shared → Prop), (∀ a tk', RR ρ b a → Q a { s with toks := tk' }) → wpAny (model G.prog G.w) A (t [.int x tx, .int y ty]) Q NoE s) (hP : P b σ) : O G n RR [.int x, .int y] t σ P :=
  .now2 b (fun A _ ρ u v s Q _ hu hv hq => by obtain ⟨tu, rfl⟩ := hu; obtain ⟨tv, rfl⟩ := hv; exact h A ρ tu tv s Q hq) hP

variable {P : MV → List MO → Prop} {PB : Bool → List MO → Prop} {x y : Int}
theorem OB.add (h : P (.int (x + y)) σ) : OBin G n .Add (.int x) (.int y) σ P := .ints (.int (x + y)) (fun _ _ _ _ _ _ q => PySem.P.add_int (q _ _ ⟨_, rfl⟩)) h
theorem OB.sub (h : P (.int (x - y)) σ) : OBin G n .Sub (.int x) (.int y) σ P := .ints (.int (x - y)) (fun _ _ _ _ _ _ q => PySem.P.sub_int (q _ _ ⟨_, rfl⟩)) h
theorem OB.mul (hm : IntMulOk x y) (h : P (.int (x * y)) σ) : OBin G n .Mult (.int x) (.int y) σ P := .ints (.int (x * y)) (fun _ _ _ _ _ _ q => PySem.P.mul_int (q _ _ ⟨_, rfl⟩) hm) h
theorem OB.mod (hy : y ≠ 0) (h : P (.int (x.fmod y)) σ) : OBin G n .Mod (.int x) (.int y) σ P := .ints (.int (x.fmod y)) (fun _ _ _ _ _ _ q => PyProof.Rows.mod_int hy (q _ _ ⟨_, rfl⟩)) h
theorem OB.fdiv (hy : y ≠ 0) (hp : Builtin.divisionGoesByPylong x y = false) (h : P (.int (x.fdiv y)) σ) : OBin G n .FloorDiv (.int x) (.int y) σ P :=
  .ints (.int (x.fdiv y)) (fun _ _ _ _ _ _ q => floordiv_int hy (q _ _ ⟨_, rfl⟩) (.inl hp)) h
theorem OB.pow (hy : 0 ≤ y) (hs : (Builtin.Int.intBits x : Int) * y ≤ 2 ^ 27) (h : P (.int (x ^ y.toNat)) σ) : OBin G n .Pow (.int x) (.int y) σ P :=
  .ints (.int (x ^ y.toNat)) (fun _ _ _ _ _ _ q => pow_int hy hs (q _ _ ⟨_, rfl⟩)) h
theorem OI.add (h : P (.int (x + y)) σ) : OInp G n .Add (.int x) (.int y) σ P := .ints (.int (x + y)) (fun _ _ _ _ _ _ q => PySem.P.iadd_int (q _ _ ⟨_, rfl⟩)) h
theorem OI.sub (h : P (.int (x - y)) σ) : OInp G n .Sub (.int x) (.int y) σ P := .ints (.int (x - y)) (fun _ _ _ _ _ _ q => PySem.P.isub_int (q _ _ ⟨_, rfl⟩)) h
theorem OC.eq (h : P (.bool (x == y)) σ) : OCmp G n .Eq (.int x) (.int y) σ P := .ints (.bool (x == y)) (fun _ _ _ _ _ _ q => PySem.P.eq_int (q _ _ rfl)) h
theorem OC.ne (h : P (.bool (x != y)) σ) : OCmp G n .NotEq (.int x) (.int y) σ P := .ints (.bool (x != y)) (fun _ _ _ _ _ _ q => PySem.P.ne_int (q _ _ rfl)) h
theorem OC.lt (h : P (.bool (decide (x < y))) σ) : OCmp G n .Lt (.int x) (.int y) σ P := .ints (.bool (decide (x < y))) (fun _ _ _ _ _ _ q => PySem.P.lt_int (q _ _ rfl)) h
theorem OC.le (h : P (.bool (decide (x ≤ y))) σ) : OCmp G n .LtE (.int x) (.int y) σ P := .ints (.bool (decide (x ≤ y))) (fun _ _ _ _ _ _ q => PySem.P.le_int (q _ _ rfl)) h
theorem OC.gt (h : P (.bool (decide (x > y))) σ) : OCmp G n .Gt (.int x) (.int y) σ P := .ints (.bool (decide (x > y))) (fun _ _ _ _ _ _ q => PySem.P.gt_int (q _ _ rfl)) h
theorem OC.ge (h : P (.bool (decide (x ≥ y))) σ) : OCmp G n .GtE (.int x) (.int y) σ P := .ints (.bool (decide (x ≥ y))) (fun _ _ _ _ _ _ q => PySem.P.ge_int (q _ _ rfl)) h
theorem OT.bool {b : Bool} (h : PB b σ) : OTru G n (.bool b) σ PB := .now1 b (fun _ _ _ u s Q _ hu q => by cases hu; exact wpAny_truthy_bool (q _ s.toks rfl)) h
theorem OT.int (h : PB (x != 0) σ) : OTru G n (.int x) σ PB := .now1 (x != 0) (fun _ _ _ u s Q _ hu q => by obtain ⟨t, rfl⟩ := hu; exact PySem.P.truthy_int (q _ _ rfl)) h
end

/-! statements -/
inductive MF where
  | next
  | brk
  | cont
  | ret (v : MV)
noncomputable def RF (ρ : List Addr) : MF → Flow → Prop
  | .next, f => f = .next
  | .brk, f => f = .brk
  | .cont, f => f = .cont
  | .ret m, f => ∃ v, f = .ret v ∧ RV ρ m v

noncomputable def WS (G : Gl) (n : Nat) (cx : Cx) (st : Stmt) (loc : Loc) (σ : List MO) (P : MF → Loc → List MO → Prop) : Prop := W G n cx RF (exec st) loc σ P
noncomputable def WX (G : Gl) (n : Nat) (cx : Cx) (b : List Stmt) (loc : Loc) (σ : List MO) (P : MF → Loc → List MO → Prop) : Prop := W G n cx RF (execs b) loc σ P

noncomputable def Then (G : Gl) (n : Nat) (cx : Cx) (rest : List Stmt) (P : MF → Loc → List MO → Prop) (f : MF) (loc : Loc) (σ : List MO) : Prop := match f with
  | .next => WX G n cx rest loc σ P
  | f => P f loc σ

section
variable {G : Gl} {n : Nat} {cx : Cx} {loc : Loc} {σ : List MO} {P : MF → Loc → List MO → Prop}

theorem W.mono {α β : Type} {RR : List Addr → β → α → Prop} {t : Env → Sem α} {P P' : β → Loc → List MO → Prop} (h : W G n cx RR t loc σ P) (k : ∀ b l s, P b l s → P' b l s) : W G n cx RR t loc σ P' :=
  fun A fr env L ρ s Q hA hact hrel hQ => h A fr env L ρ s Q hA hact hrel fun ρ' b a l' σ' h' tk S R r p => hQ ρ' b a l' σ' h' tk S R r (k _ _ _ p)
theorem O.mono {α β : Type} {RR : List Addr → β → α → Prop} {vs : List MV} {t : List Value → Sem α} {P P' : β → List MO → Prop} (h : O G n RR vs t σ P) (k : ∀ b s, P b s → P' b s) : O G n RR vs t σ P' :=
  fun A fr L ρ l us s Q hA hrel hus hQ => h A fr L ρ l us s Q hA hrel hus fun ρ' b a σ' h' tk S R r p => hQ ρ' b a σ' h' tk S R r (k _ _ p)
theorem WE.mono {e : Expr} {P P' : MV → List MO → Prop} (h : WE G n cx e loc σ P) (k : ∀ v s, P v s → P' v s) : WE G n cx e loc σ P' :=
  W.mono h fun v l s p => ⟨p.1, k v s p.2⟩
theorem WB.mono {e : Expr} {P P' : Bool → List MO → Prop} (h : WB G n cx e loc σ P) (k : ∀ v s, P v s → P' v s) : WB G n cx e loc σ P' :=
  W.mono h fun v l s p => ⟨p.1, k v s p.2⟩

theorem WX.nil (h : P .next loc σ) : WX G n cx [] loc σ P := fun A fr env L ρ s Q hA hact hrel hQ =>
  wpAny_execs_nil (hQ ρ .next _ loc σ s.heap s.toks .refl rfl hrel h)
theorem WX.cons {st : Stmt} {rest : List Stmt} (h : WS G n cx st loc σ (Then G n cx rest P)) : WX G n cx (st :: rest) loc σ P := by
  intro A fr env L ρ s Q hA hact hrel hQ
  refine wpAny_execs_cons (h A fr env L ρ s _ hA hact hrel ?_)
  rintro ρ₁ f vf loc₁ σ₁ h₁ t₁ S₁ R₁ rel₁ hP₁
  cases f with
  | next =>
    cases R₁
    refine hP₁ A fr env L ρ₁ _ _ hA (hact.mono S₁.pre) rel₁ ?_
    rintro ρ₂ f vf loc₂ σ₂ h₂ t₂ S₂ R₂ rel₂ hP₂
    exact hQ ρ₂ f vf loc₂ σ₂ h₂ t₂ (S₁.trans S₂) R₂ rel₂ hP₂
  | brk => cases R₁; exact hQ ρ₁ .brk _ loc₁ σ₁ h₁ t₁ S₁ rfl rel₁ hP₁
  | cont => cases R₁; exact hQ ρ₁ .cont _ loc₁ σ₁ h₁ t₁ S₁ rfl rel₁ hP₁
  | ret m => obtain ⟨v, rfl, r⟩ := R₁; exact hQ ρ₁ (.ret m) _ loc₁ σ₁ h₁ t₁ S₁ ⟨v, rfl, r⟩ rel₁ hP₁

theorem WS.if_ {t : Expr} {a b : List Stmt} {pos : Pos} (h : WB G n cx t loc σ fun c σ₁ => (c = true → WX G n cx a loc σ₁ P) ∧ (c = false → WX G n cx b loc σ₁ P)) : WS G n cx (.If t a b pos) loc σ P := by
  intro A fr env L ρ s Q hA hact hrel hQ
  refine wpAny_If (h A fr env L ρ s _ hA hact hrel ?_)
  rintro ρ₁ c vc _ σ₁ h₁ t₁ S₁ R₁ rel₁ ⟨rfl, hP₁⟩
  cases R₁
  have fin : ∀ b, WX G n cx b loc σ₁ P → wpAny (model G.prog G.w) A (execs b env) Q NoE { s with heap := h₁, toks := t₁ } := fun b hb => by
    refine hb A fr env L ρ₁ _ _ hA (hact.mono S₁.pre) rel₁ ?_
    rintro ρ₂ f vf loc₂ σ₂ h₂ t₂ S₂ R₂ rel₂ hP₂
    exact hQ ρ₂ f vf loc₂ σ₂ h₂ t₂ (S₁.trans S₂) R₂ rel₂ hP₂
  cases c with
  | true => exact fin a (hP₁.1 rfl)
  | false => exact fin b (hP₁.2 rfl)

theorem WS.ret {e : Expr} {pos : Pos} (h : WE G n cx e loc σ fun v σ₁ => P (.ret v) loc σ₁) : WS G n cx (.Return (some e) pos) loc σ P := by
  intro A fr env L ρ s Q hA hact hrel hQ
  refine wpAny_Return_some (h A fr env L ρ s _ hA hact hrel ?_)
  rintro ρ₁ v vv _ σ₁ h₁ t₁ S₁ R₁ rel₁ ⟨rfl, hP₁⟩
  exact hQ ρ₁ (.ret v) _ loc σ₁ h₁ t₁ S₁ ⟨vv, rfl, R₁⟩ rel₁ hP₁

noncomputable def WN (G : Gl) (n : Nat) (cx : Cx) (x : Str) (v : MV) (loc : Loc) (σ : List MO) (P : Loc → List MO → Prop) : Prop :=
  ∀ (A : Around) (fr : List Env) (env : Env) (L : Addr) (ρ : List Addr) (u : Value) (s : Shared) (Q : Unit → Shared → Prop), OkA n fr A → Act cx ρ L env → Rel G fr L ρ loc σ s.heap → RV ρ v u →
    (∀ loc' σ' h' tk', Step fr ρ ρ L s.heap h' → Rel G fr L ρ loc' σ' h' → P loc' σ' → Q () { s with heap := h', toks := tk' }) →
    wpAny (model G.prog G.w) A (storeName env x u) Q NoE s
theorem WN.l {x : Str} {v : MV} {P : Loc → List MO → Prop} (hk : cx.scope.kind = .function) (hx : cx.scope.names.lookup x = some .local) (h : P ((x, v) :: loc) σ) : WN G n cx x v loc σ P := by
  intro A fr env L ρ u s Q hA hact hrel hu hQ
  obtain ⟨m, hn, hm⟩ := hrel.ns
  refine wpAny_storeName_local (hact.kindOf hx) (by rw [hact.loc]; exact hn) (fun h' hn' hs' => ?_) (hact.plain hk)
  rw [hact.loc] at hn' hs'
  exact hQ _ σ h' _ (.store hs') (hrel.store hu hm hn' hs') h
theorem WN.c {x : Str} {v : MV} {k : Nat} {v₀ : Option MV} {P : Loc → List MO → Prop} (hk : cx.scope.kind = .function) (hx : cx.scope.names.lookup x = some .cell) (hc : cx.cells.lookup x = some k) (hv : σ[k]? = some (.cell v₀))
    (h : P loc (σ.set k (.cell (some v)))) : WN G n cx x v loc σ P := by
  intro A fr env L ρ u s Q hA hact hrel hu hQ
  obtain ⟨a, ea, el⟩ := hact.cells x k hc
  obtain ⟨o, ho, q⟩ := hrel.objs k _ a hv ea
  have hd : ∃ w₀, o.data = .cell w₀ := by
    cases v₀ with
    | none => exact ⟨_, q⟩
    | some m => obtain ⟨w, hw, _⟩ := q; exact ⟨_, hw⟩
  obtain ⟨w₀, hd⟩ := hd
  refine wpAny_storeName_cell (hact.kind hk) (hact.kindOf hx) el ⟨o, ho, hd⟩ fun h' hv' hs' => ?_
  obtain ⟨o', ho', hd'⟩ := hv'
  have hs : ∀ b ob, b ≠ a → s.heap.get? b = some ob → h'.get? b = some ob := fun b ob hb e => (hs'.2 b hb).trans e
  exact hQ loc _ h' s.toks (.update ea hs) (hrel.update (mo := .cell (some v)) ea hs ho' ⟨u, hd', hu⟩) h

theorem WS.assign {x : Str} {p pos : Pos} {e : Expr} (h : WE G n cx e loc σ fun v σ₁ => WN G n cx x v loc σ₁ fun l σ₂ => P .next l σ₂)
    (hs : ∀ env, swapsWith e (some (.Name x p)) pos.line env = pure false := by intro _; rfl) : WS G n cx (.Assign [.Name x p] e pos) loc σ P := by
  intro A fr env L ρ s Q hA hact hrel hQ
  refine wpAny_Assign_Name (h A fr env L ρ s _ hA hact hrel ?_) (hs env)
  rintro ρ₁ v vv _ σ₁ h₁ t₁ S₁ R₁ rel₁ ⟨rfl, hP₁⟩
  refine hP₁ A fr env L ρ₁ vv _ _ hA (hact.mono S₁.pre) rel₁ R₁ ?_
  intro loc₂ σ₂ h₂ t₂ S₂ rel₂ hP₂
  exact hQ ρ₁ .next _ loc₂ σ₂ h₂ t₂ (S₁.trans S₂) rfl rel₂ hP₂

theorem WS.aug {x : Str} {p pos : Pos} {op : Operator} {e : Expr} (h : WL G n cx x loc σ fun old σ₀ => WE G n cx e loc σ₀ fun v σ₁ => OInp G n op old v σ₁ fun r σ₂ => WN G n cx x r loc σ₂ fun l σ₃ => P .next l σ₃) : WS G n cx (.AugAssign (.Name x p) op e pos) loc σ P := by
  intro A fr env L ρ s Q hA hact hrel hQ
  refine wpAny_AugAssign_Name (h A fr env L ρ s _ hA hact hrel ?_)
  rintro ρ₀ old vo _ σ₀ h₀ t₀ S₀ R₀ rel₀ ⟨rfl, hP₀⟩
  refine hP₀ A fr env L ρ₀ _ _ hA (hact.mono S₀.pre) rel₀ ?_
  rintro ρ₁ v vv _ σ₁ h₁ t₁ S₁ R₁ rel₁ ⟨rfl, hP₁⟩
  refine hP₁ A fr L ρ₁ _ [vo, vv] _ _ hA rel₁ ⟨R₀.mono S₁.pre, R₁, trivial⟩ ?_
  rintro ρ₂ r vr σ₂ h₂ t₂ S₂ R₂ rel₂ hP₂
  refine hP₂ A fr env L ρ₂ vr _ _ hA (hact.mono (S₀.trans (S₁.trans S₂)).pre) rel₂ R₂ ?_
  intro loc₃ σ₃ h₃ t₃ S₃ rel₃ hP₃
  exact hQ ρ₂ .next _ loc₃ σ₃ h₃ t₃ (S₀.trans (S₁.trans (S₂.trans S₃))) rfl rel₃ hP₃

theorem WS.expr {e : Expr} {pos : Pos} (hk : cx.scope.kind = .function) (h : WE G n cx e loc σ fun v σ₁ => v = .none ∧ P .next loc σ₁) (hs : ∀ env, swapsWith e none pos.line env = pure false := by intro _; rfl) : WS G n cx (.Expr e pos) loc σ P := by
  intro A fr env L ρ s Q hA hact hrel hQ
  refine wpAny_Expr (h A fr env L ρ s _ hA hact hrel ?_) (by unfold interactive; rw [hact.kind hk]; rfl) (hs env)
  rintro ρ₁ v vv _ σ₁ h₁ t₁ S₁ R₁ rel₁ ⟨rfl, rfl, hP₁⟩
  cases R₁
  exact hQ ρ₁ .next _ loc σ₁ h₁ t₁ S₁ rfl rel₁ hP₁
end
end Mine

namespace Mine

noncomputable def WEs (G : Gl) (n : Nat) (cx : Cx) (es : List Expr) (loc : Loc) (σ : List MO) (P : List MV → List MO → Prop) : Prop :=
  ∀ pos, W G n cx RVs (fun env => spliced (backTo pos (starEach es env))) loc σ fun vs l σ' => loc = l ∧ P vs σ'

noncomputable def Call (us : List Value) : Sem Value := match us with | f :: us => call f us | [] => unsupported ""
abbrev OCall (G : Gl) (n : Nat) (f : MV) (vs : List MV) (σ : List MO) (P : MV → List MO → Prop) : Prop := O G n RV (f :: vs) Call σ P
noncomputable def NewL (us : List Value) : Sem Value := newList us
noncomputable def NewT (us : List Value) : Sem Value := newTuple us

section
variable {G : Gl} {n : Nat} {cx : Cx} {loc : Loc} {σ : List MO} {P : MV → List MO → Prop}

theorem WEs.nil {P : List MV → List MO → Prop} (h : P [] σ) : WEs G n cx [] loc σ P := fun pos A fr env L ρ s Q hA hact hrel hQ =>
  spliced_nil (hQ ρ [] [] loc σ s.heap s.toks .refl trivial hrel ⟨rfl, h⟩)
theorem WEs.cons {e : Expr} {es : List Expr} {P : List MV → List MO → Prop} (h : WE G n cx e loc σ fun v σ₁ => WEs G n cx es loc σ₁ fun vs σ₂ => P (v :: vs) σ₂)
    (he : ∀ env, starEach (e :: es) env = (false, eval e env) :: starEach es env := by intro _; rfl) : WEs G n cx (e :: es) loc σ P := by
  intro pos A fr env L ρ s Q hA hact hrel hQ
  show wpAny _ A (spliced (backTo pos (starEach (e :: es) env))) Q NoE s
  rw [he]
  show wpAny _ A (spliced ((false, eval e env) :: backTo pos (starEach es env))) Q NoE s
  refine spliced_cons (h A fr env L ρ s _ hA hact hrel ?_)
  rintro ρ₁ v vv _ σ₁ h₁ t₁ S₁ R₁ rel₁ ⟨rfl, hP₁⟩
  refine hP₁ pos A fr env L ρ₁ _ _ hA (hact.mono S₁.pre) rel₁ ?_
  rintro ρ₂ vs us _ σ₂ h₂ t₂ S₂ R₂ rel₂ ⟨rfl, hP₂⟩
  exact hQ ρ₂ (v :: vs) (vv :: us) _ σ₂ h₂ t₂ (S₁.trans S₂) ⟨R₁.mono S₂.pre, R₂⟩ rel₂ ⟨rfl, hP₂⟩

theorem WE.list {es : List Expr} {pos : Pos} (h : WEs G n cx es loc σ fun vs σ₁ => O G n RV vs NewL σ₁ P) : WE G n cx (.List es pos) loc σ P := by
  intro A fr env L ρ s Q hA hact hrel hQ
  refine List_ (h pos A fr env L ρ s _ hA hact hrel ?_)
  rintro ρ₁ vs us _ σ₁ h₁ t₁ S₁ R₁ rel₁ ⟨rfl, hP₁⟩
  refine hP₁ A fr L ρ₁ _ us _ _ hA rel₁ R₁ ?_
  rintro ρ₂ v vv σ₂ h₂ t₂ S₂ R₂ rel₂ hP₂
  exact hQ ρ₂ v vv _ σ₂ h₂ t₂ (S₁.trans S₂) R₂ rel₂ ⟨rfl, hP₂⟩
theorem WE.tup {es : List Expr} {k : Nat} {pos : Pos} (h : WEs G n cx es loc σ fun vs σ₁ => O G n RV vs NewT σ₁ P) : WE G n cx (.Tuple es k pos) loc σ P := by
  intro A fr env L ρ s Q hA hact hrel hQ
  refine Tuple_ (h pos A fr env L ρ s _ hA hact hrel ?_)
  rintro ρ₁ vs us _ σ₁ h₁ t₁ S₁ R₁ rel₁ ⟨rfl, hP₁⟩
  refine hP₁ A fr L ρ₁ _ us _ _ hA rel₁ R₁ ?_
  rintro ρ₂ v vv σ₂ h₂ t₂ S₂ R₂ rel₂ hP₂
  exact hQ ρ₂ v vv _ σ₂ h₂ t₂ (S₁.trans S₂) R₂ rel₂ ⟨rfl, hP₂⟩

theorem get_last {ρ : List Addr} {a : Addr} {m : Nat} (h : ρ.length = m) : (ρ ++ [a])[m]? = some a := by
  rw [List.getElem?_append_right (by lia), ← h]; simp
theorem Rel.made {fr : List Env} {L : Addr} {ρ : List Addr} {s : Shared} {Q : Value → Shared → Prop} (hrel : Rel G fr L ρ loc σ s.heap)
    (hQ : ∀ ρ' b a σ' h' tk', Step fr ρ ρ' L s.heap h' → RV ρ' b a → Rel G fr L ρ' loc σ' h' → P b σ' → Q a { s with heap := h', toks := tk' })
    {mo : MO} {o : Obj} (ho : RO ρ mo o) (hf : o.isFreed = false) (hP : P (.obj σ.length) (σ ++ [mo])) : Q (.ref s.heap.objs.size) { s with heap := s.heap.push o } :=
  hQ (ρ ++ [s.heap.objs.size]) (.obj σ.length) _ _ _ s.toks (hrel.pushStep o) ⟨_, get_last hrel.len, rfl⟩ (hrel.push ho hf) hP
theorem O.newList {vs : List MV} (hl : vs.length ≤ 1000000) (h : P (.obj σ.length) (σ ++ [.list vs])) : O G n RV vs NewL σ P := by
  intro A fr L ρ loc us s Q hA hrel hus hQ
  refine wpAny_newObj_type (hrel.made hQ (mo := .list vs) ⟨us, 0, rfl, hus⟩ rfl h) ?_
  show us.toArray.size ≤ sizeLine
  rw [List.size_toArray, hus.length, sizeLine_eq]; lia
theorem O.newTuple {vs : List MV} (hl : vs.length ≤ 1000000) (h : P (.obj σ.length) (σ ++ [.tup vs])) : O G n RV vs NewT σ P := by
  intro A fr L ρ loc us s Q hA hrel hus hQ
  refine wpAny_newObj_type (hrel.made hQ (mo := .tup vs) ⟨us, 0, rfl, hus⟩ rfl h) ?_
  show us.toArray.size ≤ sizeLine
  rw [List.size_toArray, hus.length, sizeLine_eq]; lia

theorem Rel.atList {fr : List Env} {L : Addr} {ρ : List Addr} {h : Heap} (hrel : Rel G fr L ρ loc σ h) {k : Nat} {xs : List MV} {u : Value} (hu : RV ρ (.obj k) u) (hk : σ[k]? = some (.list xs)) :
    ∃ a vs m, u = .ref a ∧ ρ[k]? = some a ∧ h.get? a = some { cls := .type "list", data := .seq (List.toArray vs) m } ∧ RVs ρ xs vs := by
  obtain ⟨a, ea, rfl⟩ := hu
  obtain ⟨o, ho, vs, m, rfl, hvs⟩ := hrel.objs k _ a hk ea
  exact ⟨a, vs, m, rfl, ea, ho, hvs⟩
theorem Rel.atTup {fr : List Env} {L : Addr} {ρ : List Addr} {h : Heap} (hrel : Rel G fr L ρ loc σ h) {k : Nat} {xs : List MV} {u : Value} (hu : RV ρ (.obj k) u) (hk : σ[k]? = some (.tup xs)) :
    ∃ a vs m, u = .ref a ∧ ρ[k]? = some a ∧ h.get? a = some { cls := .type "tuple", data := .seq (List.toArray vs) m } ∧ RVs ρ xs vs := by
  obtain ⟨a, ea, rfl⟩ := hu
  obtain ⟨o, ho, vs, m, rfl, hvs⟩ := hrel.objs k _ a hk ea
  exact ⟨a, vs, m, rfl, ea, ho, hvs⟩

theorem len1 {us : List Value} (h : us.length = 1) : ∃ a, us = [a] := match us, h with | [a], _ => ⟨a, rfl⟩
theorem len2 {us : List Value} (h : us.length = 2) : ∃ a b, us = [a, b] := match us, h with | [a, b], _ => ⟨a, b, rfl⟩
theorem len3 {us : List Value} (h : us.length = 3) : ∃ a b c, us = [a, b, c] := match us, h with | [a, b, c], _ => ⟨a, b, c, rfl⟩
theorem uncons {ρ : List Addr} {x : MV} {xs : List MV} {us : List Value} (h : RVs ρ (x :: xs) us) : ∃ u vs, us = u :: vs ∧ RV ρ x u ∧ RVs ρ xs vs :=
  match us, h with | u :: vs, r => ⟨u, vs, rfl, r⟩
theorem unnil {ρ : List Addr} {us : List Value} (h : RVs ρ [] us) : us = [] :=
  match us, h with | [], _ => rfl
theorem one {ρ : List Addr} {x : MV} {us : List Value} (h : RVs ρ [x] us) : ∃ u, us = [u] ∧ RV ρ x u := by
  obtain ⟨u, vs, rfl, hu, h⟩ := uncons h
  cases unnil h
  exact ⟨u, rfl, hu⟩
theorem two {ρ : List Addr} {x y : MV} {us : List Value} (h : RVs ρ [x, y] us) : ∃ u v, us = [u, v] ∧ RV ρ x u ∧ RV ρ y v := by
  obtain ⟨u, vs, rfl, hu, h⟩ := uncons h
  obtain ⟨v, rfl, hv⟩ := one h
  exact ⟨u, v, rfl, hu, hv⟩
theorem three {ρ : List Addr} {x y z : MV} {us : List Value} (h : RVs ρ [x, y, z] us) : ∃ u v w, us = [u, v, w] ∧ RV ρ x u ∧ RV ρ y v ∧ RV ρ z w := by
  obtain ⟨u, vs, rfl, hu, h⟩ := uncons h
  obtain ⟨v, w, rfl, hv⟩ := two h
  exact ⟨u, v, w, rfl, hu, hv⟩
theorem four {ρ : List Addr} {x y z a : MV} {us : List Value} (h : RVs ρ [x, y, z, a] us) : ∃ u v w t, us = [u, v, w, t] ∧ RV ρ x u ∧ RV ρ y v ∧ RV ρ z w ∧ RV ρ a t := by
  obtain ⟨u, vs, rfl, hu, h⟩ := uncons h
  obtain ⟨v, w, t, rfl, hv⟩ := three h
  exact ⟨u, v, w, t, rfl, hu, hv⟩
theorem five {ρ : List Addr} {x y z a b : MV} {us : List Value} (h : RVs ρ [x, y, z, a, b] us) : ∃ u v w t s, us = [u, v, w, t, s] ∧ RV ρ x u ∧ RV ρ y v ∧ RV ρ z w ∧ RV ρ a t ∧ RV ρ b s := by
  obtain ⟨u, vs, rfl, hu, h⟩ := uncons h
  obtain ⟨v, w, t, s, rfl, hv⟩ := four h
  exact ⟨u, v, w, t, s, rfl, hu, hv⟩

theorem OB.addList {i j : Nat} {xs ys : List MV} (hi : σ[i]? = some (.list xs)) (hj : σ[j]? = some (.list ys)) (hl : xs.length + ys.length ≤ 1000000) (h : P (.obj σ.length) (σ ++ [.list (xs ++ ys)])) :
    OBin G n .Add (.obj i) (.obj j) σ P := by
  intro A fr L ρ loc us s Q hA hrel hus hQ
  obtain ⟨u, v, rfl, hu, hv⟩ := two hus
  obtain ⟨a, vs, m, rfl, _, ha, hvs⟩ := hrel.atList hu hi
  obtain ⟨b, ws, k, rfl, _, hb, hws⟩ := hrel.atList hv hj
  refine PySem.P.add_list ha hb ?_ ?_
  · rw [List.append_toArray]
    exact hrel.made hQ (mo := .list (xs ++ ys)) ⟨vs ++ ws, 0, rfl, hvs.append hws⟩ rfl h
  · rw [List.size_toArray, List.size_toArray, hvs.length, hws.length, sizeLine_eq]; lia
theorem OB.mulList {i : Nat} {xs : List MV} {x : Int} (hi : σ[i]? = some (.list xs)) (hlo : -(2 ^ 63 : Int) ≤ x) (hhi : x < 2 ^ 63) (hl : xs.length * x.toNat ≤ 1000000)
    (h : P (.obj σ.length) (σ ++ [.list (List.replicate x.toNat xs).flatten])) : OBin G n .Mult (.obj i) (.int x) σ P := by
  intro A fr L ρ loc us s Q hA hrel hus hQ
  obtain ⟨u, v, rfl, hu, t, rfl⟩ := two hus
  obtain ⟨a, vs, m, rfl, _, ho, hvs⟩ := hrel.atList hu hi
  have hsz' : vs.toArray.size * x.toNat ≤ 2 ^ 24 := by rw [List.size_toArray, hvs.length]; lia
  refine wpAny_binaryOp_repeat_ref (T := "list") (U := "int") (by decide) ⟨_, ho, rfl⟩ (fun s' => typeIs_int s' x t) noFill_list_mul F.fills_int_mul F.slot_int_rmul repeat_list F.slot_int_index.lookup
    (call_meets F.slot_int_rmul (typeIs_int s x t) F.entry_int_rmul (F.args_int_rmul_2 _ _) (lm_int_rmul_list_any x t a vs.toArray m _ _)
      ⟨ho, rfl, ⟨_, ho, rfl⟩, call_meets F.slot_list_mul ⟨_, ho, rfl⟩ F.entry_list_mul (F.args_list_mul_2 _ _)
        (lm_list_mul_any a vs.toArray m _ _ x t (by simp [Builtin.List.listFitsIndex]; omega) (by omega) (by simp [Builtin.List.listTooLong, sizeLine]; omega))
        ⟨ho, ?_⟩⟩)
  rw [listMul_foldl_if]
  exact hrel.made hQ (mo := .list (List.replicate x.toNat xs).flatten) ⟨_, 0, rfl, hvs.rep x.toNat⟩ rfl h
end
end Mine

namespace Mine

section
variable {G : Gl} {n : Nat} {cx : Cx} {loc : Loc} {σ : List MO} {fr : List Env} {L : Addr} {ρ ρ' : List Addr} {h h' h'' : Heap} {I : Addr}

theorem Step.but (S : Step fr ρ ρ' L h h') (hI : h.get? I = none) (k : ∀ b o, b ≠ I → h'.get? b = some o → h''.get? b = some o) : Step fr ρ ρ' L h h'' :=
  ⟨S.pre, fun b o hb hL e => let ⟨o', e', q⟩ := S.keep b o hb hL e; ⟨o', k b o' (fun x => by rw [x, hI] at e; cases e) e', q⟩, S.fresh, S.nL⟩
structure Off (G : Gl) (fr : List Env) (L : Addr) (ρ : List Addr) (I : Addr) : Prop where
  base : G.H₀.get? I = none
  tab : I ∉ ρ
  loc : I ≠ L
  frm : I ∉ frs fr
theorem Rel.but (r : Rel G fr L ρ loc σ h) (O : Off G fr L ρ I) (k : ∀ b o, b ≠ I → h.get? b = some o → h'.get? b = some o) : Rel G fr L ρ loc σ h' where
  base := fun b o e => k b o (fun x => by rw [x, O.base] at e; cases e) (r.base b o e)
  len := r.len
  nodup := r.nodup
  lo := r.lo
  nL := r.nL
  loL := r.loL
  objs := fun j mo a e1 e2 => let ⟨o, ho, q⟩ := r.objs j mo a e1 e2; ⟨o, k _ _ (fun x => O.tab (x ▸ List.mem_of_getElem? e2)) ho, q⟩
  ns := by
    obtain ⟨m, ⟨o', es, ep, e, q⟩, hm⟩ := r.ns
    exact ⟨m, ⟨o', es, ep, k _ _ O.loc.symm e, q⟩, hm⟩
  ff := ff_of r.ff fun b hb o' e hd => ⟨o', k b o' (fun x => O.frm (x ▸ hb)) e, hd⟩
  frn := r.frn
theorem Rel.off (r : Rel G fr L ρ loc σ h) (hI : h.get? I = none) : Off G fr L ρ I := by
  refine ⟨?_, fun hm => ?_, fun e => ?_, fun hm => ?_⟩
  · cases e : G.H₀.get? I with
    | none => rfl
    | some o => have := r.base _ _ e; rw [hI] at this; cases this
  · obtain ⟨o, ho⟩ := r.live hm
    rw [hI] at ho; cases ho
  · obtain ⟨m, ⟨o', es, ep, e', q⟩, hm⟩ := r.ns
    rw [← e, hI] at e'; cases e'
  · obtain ⟨_, o, ho, _⟩ := r.ff.mem hm
    rw [hI] at ho; cases ho
theorem Off.step (O : Off G fr L ρ I) (S : Step fr ρ ρ' L h h') {o : Obj} (hI : h.get? I = some o) : Off G fr L ρ' I where
  base := O.base
  tab := fun hm => by rw [S.fresh I hm O.tab] at hI; cases hI
  loc := O.loc
  frm := O.frm
theorem Off.kept (O : Off G fr L ρ I) (S : Step fr ρ ρ' L h h') {o : Obj} (hI : h.get? I = some o) : h'.get? I = some o := by
  obtain ⟨o', e, q⟩ := S.keep I o O.tab O.loc hI
  rcases q with rfl | ⟨hf, _⟩
  · exact e
  · exact absurd hf O.frm

structure Iter (G : Gl) (n : Nat) (I : Addr) (xs : List MV) (ok : List MO → Prop) where
  st : Nat → List Addr → Heap → Prop
  live : ∀ {i ρ h}, st i ρ h → ∃ o, h.get? I = some o
  keep : ∀ {i ρ ρ' h h'}, st i ρ h → ρ <+: ρ' → (∀ o, h.get? I = some o → h'.get? I = some o) → st i ρ' h'
  next : ∀ {A fr L ρ loc σ} {s : Shared} {Q : Option Value → Shared → Prop} {i x}, OkA n fr A → Rel G fr L ρ loc σ s.heap → Off G fr L ρ I → ok σ → st i ρ s.heap → xs[i]? = some x →
    (∀ v h' tk, RV ρ x v → st (i + 1) ρ h' → (∀ b o, b ≠ I → s.heap.get? b = some o → h'.get? b = some o) → Q (some v) { s with heap := h', toks := tk }) → wpAny (model G.prog G.w) A (pyNext (.ref I)) Q NoE s
  done : ∀ {A fr L ρ loc σ} {s : Shared} {Q : Option Value → Shared → Prop} {i}, OkA n fr A → Rel G fr L ρ loc σ s.heap → Off G fr L ρ I → ok σ → st i ρ s.heap → xs[i]? = none →
    (∀ h' tk, (∀ b o, b ≠ I → s.heap.get? b = some o → h'.get? b = some o) → Q none { s with heap := h', toks := tk }) → wpAny (model G.prog G.w) A (pyNext (.ref I)) Q NoE s
  self : ∀ {A} {i ρ} {s : Shared} {Q : Value → Shared → Prop}, st i ρ s.heap → Q (.ref I) s → wpAny (model G.prog G.w) A (pyIter (.ref I)) Q NoE s
  plain : ∀ {A} {i ρ} {s : Shared} {Q : Unit → Shared → Prop} (t : Expr) (v : Value), st i ρ s.heap → Q () s → wpAny (model G.prog G.w) A (letOwnedTupleGo t (.ref I) v) Q NoE s

noncomputable def Src (G : Gl) (n : Nat) (v : MV) (xs : List MV) (ok : List MO → Prop) (σ : List MO) : Prop :=
  ∀ (A : Around) (fr : List Env) (L : Addr) (ρ : List Addr) (loc : Loc) (u : Value) (s : Shared) (Q : Value → Shared → Prop), OkA n fr A → Rel G fr L ρ loc σ s.heap → RV ρ v u →
    (∀ I (it : Iter G n I xs ok) h' tk, s.heap.get? I = none → (∀ b o, s.heap.get? b = some o → h'.get? b = some o) → it.st 0 ρ h' → Q (.ref I) { s with heap := h', toks := tk }) →
    wpAny (model G.prog G.w) A (pyIter u) Q NoE s

theorem letGo_fields {M : Model} {A : Around} {E : Value → Shared → Prop} {s : Shared} {I : Addr} {o : Obj} {T : String} {Q : Unit → Shared → Prop} (t : Expr) (v : Value)
    (hi : s.heap.get? I = some o) (hc : o.cls = .type T)
    (hT : (["enumerate", "zip", "dict_itemiterator", "dict_reverseitemiterator", "odict_iterator", "itertools.zip_longest", "itertools.pairwise"] : List String).contains T = false) (hQ : Q () s) : wpAny M A (letOwnedTupleGo t (.ref I) v) Q E s := by
  obtain ⟨cls, d, data, sl⟩ := o
  dsimp only at hc
  subst hc
  have fin : wpAny M A (do
      let o ← load I
      match o.cls, o.data with
      | .type n, .fields vs =>
        if (["enumerate", "zip", "dict_itemiterator", "dict_reverseitemiterator", "odict_iterator", "itertools.zip_longest", "itertools.pairwise"] : List String).contains n && vs[0]? == some (rawInt (match v with | .ref a => a | _ => 0)) then
          rule "for.unpacks-the-owned-tuple"
          updateField I 0 .none
      | _, _ => pure ()) Q E s := by
    refine wpAny_bind (wpAny_load hi ?_)
    cases data <;> first | exact wpAny_pure hQ | (simp only [hT, Bool.false_and, Bool.false_eq_true, if_false]; exact wpAny_pure hQ)
  cases t <;> first
    | exact wpAny_pure hQ
    | (cases v <;> first | exact wpAny_pure hQ | exact fin)

noncomputable def iterList (G : Gl) (n : Nat) (I : Addr) (k : Nat) (xs : List MV) : Iter G n I xs (fun σ => σ[k]? = some (.list xs)) where
  st i ρ h := ∃ a, h.IsListIter I a i ∧ ρ[k]? = some a
  live := fun ⟨_, ⟨o, e, _⟩, _⟩ => ⟨o, e⟩
  keep := fun ⟨a, ⟨o, e, r⟩, q⟩ p k' => ⟨a, ⟨o, k' _ e, r⟩, pre_get p q⟩
  next := by
    rintro A fr L ρ loc σ s Q i x hA hrel hoff hok ⟨a, e, q⟩ hx hQ
    obtain ⟨o, ho, vs, m, rfl, hvs⟩ := hrel.objs k _ a hok q
    obtain ⟨v, hv, r⟩ := hvs.get hx
    refine wpAny_pyNext_list_item (l := a) (i := i) (items := vs.toArray) (x := v) e ⟨_, ho, rfl, m, rfl⟩ (by simpa using hv) fun h' hit hs => ?_
    exact hQ v h' s.toks r ⟨a, hit, q⟩ fun b o hb e => (hs.2 b hb).trans e
  done := by
    rintro A fr L ρ loc σ s Q i hA hrel hoff hok ⟨a, e, q⟩ hx hQ
    obtain ⟨o, ho, vs, m, rfl, hvs⟩ := hrel.objs k _ a hok q
    refine wpAny_pyNext_list_end (l := a) (i := i) (items := vs.toArray) hA.handled e ⟨_, ho, rfl, m, rfl⟩ ?_ fun h' he => ?_
    · rw [List.getElem?_eq_none_iff] at hx
      simp only [List.getElem?_toArray, List.getElem?_eq_none_iff, hvs.length]
      exact hx
    · exact hQ h' s.toks he
  self := fun {A i ρ s Q} ⟨a, e, _⟩ hQ => wpAny_pyIter_listiter (l := a) (i := i) e hQ
  plain := fun t v ⟨a, ⟨o, e, hc, _⟩, _⟩ hQ => letGo_fields t v e hc (by decide) hQ
end
end Mine

namespace Mine

noncomputable def rngL (a b : Int) : List MV := (List.range (b - a).toNat).map fun (i : Nat) => MV.int (a + (i : Int))
theorem rngL_length (a b : Int) : (rngL a b).length = (b - a).toNat := by simp [rngL]
theorem rngL_get {a b : Int} {i : Nat} {x : MV} (h : (rngL a b)[i]? = some x) : (i : Int) < b - a ∧ x = .int (a + i) := by
  unfold rngL at h
  rw [List.getElem?_map] at h
  cases Nat.lt_or_ge i (b - a).toNat with
  | inl hlt =>
    rw [List.getElem?_range hlt] at h
    simp at h
    exact ⟨by lia, h.symm⟩
  | inr hge =>
    rw [List.getElem?_eq_none (by simpa using hge)] at h
    cases h

section
variable {G : Gl} {n : Nat} {cx : Cx} {loc : Loc} {σ : List MO} {fr : List Env} {L : Addr} {ρ ρ' : List Addr} {h h' h'' : Heap} {I : Addr}

noncomputable def iterTup (G : Gl) (n : Nat) (I : Addr) (k : Nat) (xs : List MV) : Iter G n I xs (fun σ => σ[k]? = some (.tup xs)) where
  st i ρ h := ∃ a, h.IsTupleIter I a i ∧ ρ[k]? = some a
  live := fun ⟨_, ⟨o, e, _⟩, _⟩ => ⟨o, e⟩
  keep := fun ⟨a, ⟨o, e, r⟩, q⟩ p k' => ⟨a, ⟨o, k' _ e, r⟩, pre_get p q⟩
  next := by
    rintro A fr L ρ loc σ s Q i x hA hrel hoff hok ⟨a, e, q⟩ hx hQ
    obtain ⟨o, ho, vs, m, rfl, hvs⟩ := hrel.objs k _ a hok q
    obtain ⟨v, hv, r⟩ := hvs.get hx
    refine wpAny_pyNext_tuple_item (t := a) (i := i) (items := vs.toArray) (x := v) e ⟨_, ho, rfl, m, rfl⟩ (by simpa using hv) fun h' hit hs => ?_
    exact hQ v h' s.toks r ⟨a, hit, q⟩ fun b o hb e => (hs.2 b hb).trans e
  done := by
    rintro A fr L ρ loc σ s Q i hA hrel hoff hok ⟨a, e, q⟩ hx hQ
    obtain ⟨o, ho, vs, m, rfl, hvs⟩ := hrel.objs k _ a hok q
    refine wpAny_pyNext_tuple_end (t := a) (i := i) (items := vs.toArray) hA.handled e ⟨_, ho, rfl, m, rfl⟩ ?_ fun h' he => ?_
    · rw [List.getElem?_eq_none_iff] at hx
      simp only [List.getElem?_toArray, List.getElem?_eq_none_iff, hvs.length]
      exact hx
    · exact hQ h' s.toks he
  self := fun {A i ρ s Q} ⟨a, e, _⟩ hQ => by
    refine wpAny_pyIter_slot e.typeIs F.slot_tuple_iterator_iter (wpAny_call_entry F.slot_tuple_iterator_iter e.typeIs F.entry_tuple_iterator_iter ?_ (F.args_tuple_iterator_iter_1 _))
    show wpAny _ _ (PySem.ret (.ref I)) _ _ s
    exact wpAny_pure ⟨_, rfl, "tuple_iterator", _, e.typeIs, F.slot_tuple_iterator_next.lookup, hQ⟩
  plain := fun t v ⟨a, ⟨o, e, hc, _⟩, _⟩ hQ => letGo_fields t v e hc (by decide) hQ

noncomputable def iterRng (G : Gl) (n : Nat) (I : Addr) (a b : Int) : Iter G n I (rngL a b) (fun _ => True) where
  st i ρ h := IsRangeIter h I (a + i) ((rngL a b).length - i) 1
  live := fun e => ⟨_, e⟩
  keep := fun e _ k' => k' _ e
  next := by
    rintro A fr L ρ loc σ s Q i x hA hrel hoff hok e hx hQ
    obtain ⟨hi, rfl⟩ := rngL_get hx
    refine wpAny_pyNext_range_item e (by rw [rngL_length]; lia) fun h' hit hs => ?_
    refine hQ _ h' _ ⟨_, rfl⟩ ?_ fun b o hb e => (hs.2 b hb).trans e
    have e1 : a + ((i + 1 : Nat) : Int) = a + i + 1 := by lia
    have e2 : ((rngL a b).length : Int) - ((i + 1 : Nat) : Int) = (rngL a b).length - i - 1 := by lia
    rw [e1, e2]; exact hit
  done := by
    rintro A fr L ρ loc σ s Q i hA hrel hoff hok e hx hQ
    rw [List.getElem?_eq_none_iff] at hx
    exact wpAny_pyNext_range_end hA.handled e (by lia) fun h' he => hQ h' s.toks he
  self := fun {A i ρ s Q} e hQ => wpAny_pyIter_rangeiter e hQ
  plain := fun t v e hQ => letGo_fields t v e rfl (by decide) hQ

theorem Src.list {k : Nat} {xs : List MV} (hk : σ[k]? = some (.list xs)) : Src G n (.obj k) xs (fun σ => σ[k]? = some (.list xs)) σ := by
  intro A fr L ρ loc u s Q hA hrel hu hQ
  obtain ⟨a, vs, m, rfl, ea, ha, hvs⟩ := hrel.atList hu hk
  refine wpAny_pyIter_list (items := vs.toArray) ⟨_, ha, rfl, m, rfl⟩ ?_
  exact hQ s.heap.objs.size (iterList G n _ k xs) _ s.toks (by
    cases e : s.heap.get? s.heap.objs.size with
    | none => rfl
    | some o => exact absurd (Heap.lt_size e) (Nat.lt_irrefl _)) (fun b o e => Heap.get?_push_of_some _ e) ⟨a, ⟨_, Heap.get?_push_size _ rfl, rfl, rfl⟩, ea⟩
theorem Src.tup {k : Nat} {xs : List MV} (hk : σ[k]? = some (.tup xs)) : Src G n (.obj k) xs (fun σ => σ[k]? = some (.tup xs)) σ := by
  intro A fr L ρ loc u s Q hA hrel hu hQ
  obtain ⟨a, vs, m, rfl, ea, ha, hvs⟩ := hrel.atTup hu hk
  refine wpAny_pyIter_tuple (items := vs.toArray) ⟨_, ha, rfl, m, rfl⟩ ?_
  exact hQ s.heap.objs.size (iterTup G n _ k xs) _ s.toks (by
    cases e : s.heap.get? s.heap.objs.size with
    | none => rfl
    | some o => exact absurd (Heap.lt_size e) (Nat.lt_irrefl _)) (fun b o e => Heap.get?_push_of_some _ e) ⟨a, ⟨_, Heap.get?_push_size _ rfl, rfl, rfl⟩, ea⟩
theorem Src.rng {k : Nat} {a b : Int} (hk : σ[k]? = some (.rng a b)) (ha : -(2 ^ 62) ≤ a) (ha' : a < 2 ^ 62) (hb : -(2 ^ 62) ≤ b) (hb' : b < 2 ^ 62) : Src G n (.obj k) (rngL a b) (fun _ => True) σ := by
  intro A fr L ρ loc u s Q hA hrel hu hQ
  obtain ⟨r, ea, rfl⟩ := hu
  obtain ⟨o, ho, t, u, v, rfl⟩ := hrel.objs k _ r hk ea
  refine wpAny_pyIter_range ho (small_one ha ha' hb hb') ?_
  refine hQ s.heap.objs.size (iterRng G n _ a b) _ s.toks (by
    cases e : s.heap.get? s.heap.objs.size with
    | none => rfl
    | some o => exact absurd (Heap.lt_size e) (Nat.lt_irrefl _)) (fun b o e => Heap.get?_push_of_some _ e) ?_
  show IsRangeIter _ _ (a + ((0 : Nat) : Int)) ((rngL a b).length - ((0 : Nat) : Int)) 1
  have e : Builtin.Range.rangeSize a b 1 = (rngL a b).length - ((0 : Nat) : Int) := by
    rw [rangeSize_one, rngL_length]
    split <;> lia
  rw [← e]
  have e' : a + ((0 : Nat) : Int) = a := by lia
  rw [e']
  exact Heap.get?_push_size _ rfl

noncomputable def WA (G : Gl) (n : Nat) (cx : Cx) (t : Expr) (v : MV) (loc : Loc) (σ : List MO) (P : Loc → List MO → Prop) : Prop :=
  ∀ (A : Around) (fr : List Env) (env : Env) (L : Addr) (ρ : List Addr) (u : Value) (s : Shared) (Q : Unit → Shared → Prop), OkA n fr A → Act cx ρ L env → Rel G fr L ρ loc σ s.heap → RV ρ v u →
    (∀ ρ' loc' σ' h' tk', Step fr ρ ρ' L s.heap h' → Rel G fr L ρ' loc' σ' h' → P loc' σ' → Q () { s with heap := h', toks := tk' }) →
    wpAny (model G.prog G.w) A (assign t env u) Q NoE s
theorem WA.name {x : Str} {pos : Pos} {v : MV} {P : Loc → List MO → Prop} (h : WN G n cx x v loc σ P) : WA G n cx (.Name x pos) v loc σ P := by
  intro A fr env L ρ u s Q hA hact hrel hu hQ
  exact wpAny_assign_Name (h A fr env L ρ u s Q hA hact hrel hu fun loc' σ' h' tk' S r p => hQ ρ loc' σ' h' tk' S r p)

noncomputable def forChain (G : Gl) (n : Nat) (cx : Cx) (t : Expr) (body : List Stmt) (ok : List MO → Prop) (P : MF → Loc → List MO → Prop) : List MV → Loc → List MO → Prop
  | [], loc, σ => P .next loc σ
  | v :: vs, loc, σ => WA G n cx t v loc σ fun loc₁ σ₁ => WX G n cx body loc₁ σ₁ fun f loc₂ σ₂ => match f with
    | .next | .cont => ok σ₂ ∧ forChain G n cx t body ok P vs loc₂ σ₂
    | .brk => P .next loc₂ σ₂
    | .ret m => P (.ret m) loc₂ σ₂

theorem drop_cons {α : Type} {xs : List α} {i : Nat} {x : α} (h : xs[i]? = some x) : xs.drop i = x :: xs.drop (i + 1) := by
  obtain ⟨hi, rfl⟩ := List.getElem?_eq_some_iff.mp h
  exact List.drop_eq_getElem_cons hi

theorem noted_no {M : Model} {A : Around} {env : Env} {R : Value → Shared → Prop} {α : Type} {t : Sem α} {Q : α → Shared → Prop} {s : Shared} (h : wpAny M A t Q NoE s) : wpAny M A t Q (notedBy M A env R) s :=
  wpAny_mono h (fun _ _ x => x) fun _ _ x => x.elim

theorem forLoop' {prog : Program} {w : World} {A : Around} {s : Shared} {R : Result → Shared → Prop} {target it body orelse env} (J : Nat → Shared → Prop)
    (turn : ∀ n s, J n s → wpAny (model prog w) A (pyNext it) (fun r s₁ => match r with
      | none => wpAny (model prog w) A (execs orelse env) (fun f s₃ => R (.ok f) s₃) NoE s₁
      | some v => wpAny (model prog w) A (letOwnedTupleGo target it v) (fun _ s₁ => wpAny (model prog w) A (assign target env v) (fun _ s₂ => wpAny (model prog w) A (execs body env) (fun f s₃ => match f with
          | .next | .cont => ∃ m, m < n ∧ J m s₃
          | .brk => R (.ok .next) s₃
          | .ret v => R (.ok (.ret v)) s₃) NoE s₂) NoE s₁) NoE s₁) NoE s)
    (n : Nat) (h : J n s) : codeAny (model prog w) A (.forLoop target it body orelse env) R s := by
  refine codeAny_forLoop_any J (fun n s hJ => noted_no (wpAny_mono (turn n s hJ) (fun r s₁ h₁ => ?_) fun _ _ x => x)) n h
  cases r with
  | none => exact noted_no h₁
  | some v => exact noted_no (wpAny_mono h₁ (fun _ _ h₂ => noted_no (wpAny_mono h₂ (fun _ _ h₃ => noted_no h₃) fun _ _ x => x)) fun _ _ x => x)

theorem WS.for_ {t e : Expr} {body : List Stmt} {pos : Pos} {P : MF → Loc → List MO → Prop}
    (hb : WE G n cx e loc σ fun v σ₁ => ∃ xs ok, Src G n v xs ok σ₁ ∧ ok σ₁ ∧ forChain G n cx t body ok P xs loc σ₁)
    (hs : ∀ env x, foldedSetIterable e env x = pure x := by intro _ _; rfl) : WS G n cx (.For t e body [] pos) loc σ P := by
  intro A fr env L ρ s Q hA hact hrel hQ
  refine wpAny_For (hb A fr env L ρ s _ hA hact hrel ?_) (hs env)
  rintro ρ₁ v vv _ σ₁ h₁ t₁ S₁ R₁ rel₁ ⟨rfl, xs, ok, src, hok, hch⟩
  refine src A fr L ρ₁ loc vv _ _ hA rel₁ R₁ ?_
  intro I it h₂ t₂ hI k₂ st₂
  have rel₂ := rel₁.ext k₂
  have S₂ : Step fr ρ ρ₁ L s.heap h₂ := S₁.trans (.ext k₂)
  have off₁ : Off G fr L ρ₁ I := rel₁.off hI
  have hI0 : s.heap.get? I = none := by
    cases e : s.heap.get? I with
    | none => rfl
    | some o =>
      obtain ⟨o', e', _⟩ := S₁.keep I o (fun hm => off₁.tab (S₁.pre.subset hm)) off₁.loc e
      rw [hI] at e'; cases e'
  refine forLoop' (fun k s' => ∃ ρ' loc' σ' h' tk' i, s' = { s with heap := h', toks := tk' } ∧ Step fr ρ ρ' L s.heap h' ∧ Rel G fr L ρ' loc' σ' h' ∧ Off G fr L ρ' I ∧ ok σ' ∧ it.st i ρ' h' ∧ forChain G n cx t body ok P (xs.drop i) loc' σ' ∧ i ≤ xs.length ∧ k = xs.length - i) ?_ xs.length
    ⟨ρ₁, loc, σ₁, h₂, t₂, 0, rfl, S₂, rel₂, off₁, hok, st₂, hch, Nat.zero_le _, rfl⟩
  rintro k _ ⟨ρ', loc', σ', h', tk', i, rfl, S', rel', off', hok', st', hch', hi, rfl⟩
  cases hx : xs[i]? with
  | none =>
    refine it.done hA rel' off' hok' st' hx fun h'' tk'' k'' => ?_
    have rel'' := rel'.but off' k''
    have S'' := S'.but hI0 k''
    have : xs.drop i = [] := by rw [List.drop_eq_nil_iff]; exact List.getElem?_eq_none_iff.mp hx
    rw [this] at hch'
    exact wpAny_execs_nil (hQ ρ' .next _ loc' σ' h'' tk'' S'' rfl rel'' hch')
  | some x =>
    refine it.next hA rel' off' hok' st' hx fun v h'' tk'' rv st'' k'' => ?_
    have rel'' := rel'.but off' k''
    have S'' := S'.but hI0 k''
    rw [drop_cons hx] at hch'
    obtain ⟨oI, eI⟩ := it.live st''
    refine it.plain t v st'' ?_
    refine hch' A fr env L ρ' v _ _ hA (hact.mono S''.pre) rel'' rv ?_
    intro ρ₃ loc₃ σ₃ h₃ t₃ S₃ rel₃ hP₃
    have off₃ := off'.step S₃ eI
    have eI₃ := off'.kept S₃ eI
    have st₃ := it.keep st'' S₃.pre fun o e => off'.kept S₃ e
    have Sa := S''.trans S₃
    refine hP₃ A fr env L ρ₃ _ _ hA (hact.mono Sa.pre) rel₃ ?_
    intro ρ₄ f vf loc₄ σ₄ h₄ t₄ S₄ R₄ rel₄ hP₄
    have off₄ := off₃.step S₄ eI₃
    have st₄ := it.keep st₃ S₄.pre fun o e => off₃.kept S₄ e
    have Sb := Sa.trans S₄
    have hlt : i < xs.length := (List.getElem?_eq_some_iff.mp hx).1
    cases f with
    | next =>
      cases R₄
      exact ⟨xs.length - (i + 1), by lia, ρ₄, loc₄, σ₄, h₄, t₄, i + 1, rfl, Sb, rel₄, off₄, hP₄.1, st₄, hP₄.2, hlt, rfl⟩
    | cont =>
      cases R₄
      exact ⟨xs.length - (i + 1), by lia, ρ₄, loc₄, σ₄, h₄, t₄, i + 1, rfl, Sb, rel₄, off₄, hP₄.1, st₄, hP₄.2, hlt, rfl⟩
    | brk => cases R₄; exact hQ ρ₄ .next _ loc₄ σ₄ h₄ t₄ Sb rfl rel₄ hP₄
    | ret m => obtain ⟨u, rfl, r⟩ := R₄; exact hQ ρ₄ (.ret m) _ loc₄ σ₄ h₄ t₄ Sb ⟨u, rfl, r⟩ rel₄ hP₄

theorem forChain_inv {t : Expr} {body : List Stmt} {ok : List MO → Prop} {P : MF → Loc → List MO → Prop} {xs : List MV} (J : Nat → Loc → List MO → Prop)
    (turn : ∀ i x loc σ, xs[i]? = some x → ok σ → J i loc σ → WA G n cx t x loc σ fun loc₁ σ₁ => WX G n cx body loc₁ σ₁ fun f loc₂ σ₂ => match f with
      | .next | .cont => ok σ₂ ∧ J (i + 1) loc₂ σ₂
      | .brk => P .next loc₂ σ₂
      | .ret m => P (.ret m) loc₂ σ₂)
    (fin : ∀ loc σ, ok σ → J xs.length loc σ → P .next loc σ) {loc : Loc} {σ : List MO} (h0 : J 0 loc σ) (hok : ok σ) : forChain G n cx t body ok P xs loc σ := by
  have key : ∀ (k i : Nat) (loc : Loc) (σ : List MO), k = xs.length - i → i ≤ xs.length → ok σ → J i loc σ → forChain G n cx t body ok P (xs.drop i) loc σ := by
    intro k
    induction k with
    | zero =>
      intro i loc σ hk hi ho hj
      have : i = xs.length := by lia
      subst this
      rw [List.drop_length]
      exact fin loc σ ho hj
    | succ k ih =>
      intro i loc σ hk hi ho hj
      have hlt : i < xs.length := by lia
      rw [List.drop_eq_getElem_cons hlt]
      intro A fr env L ρ u s Q hA hact hrel hu hQ
      refine turn i xs[i] loc σ (List.getElem?_eq_getElem hlt) ho hj A fr env L ρ u s Q hA hact hrel hu ?_
      intro ρ' loc' σ' h' tk' S r p
      refine hQ ρ' loc' σ' h' tk' S r (W.mono p fun f l s q => ?_)
      cases f with
      | next => exact ⟨q.1, ih (i + 1) l s (by lia) (by lia) q.1 q.2⟩
      | cont => exact ⟨q.1, ih (i + 1) l s (by lia) (by lia) q.1 q.2⟩
      | brk => exact q
      | ret m => exact q
  exact key xs.length 0 loc σ (by lia) (Nat.zero_le _) hok h0
end
end Mine

namespace Mine

section
variable {G : Gl} {n : Nat} {cx : Cx} {loc : Loc} {σ : List MO} {P : MV → List MO → Prop}

theorem callWith_top {M : Model} {A : Around} {E : Value → Shared → Prop} {s : Shared} {pos : Pos} {f : Value} {first : List Value} {args : List (Bool × Sem Value)} {Q : Value → Shared → Prop} (hf : ∀ a, f ≠ .ref a) (hplain : args.any (·.1) = false)
    (h : wpAny M A (evalArgs f true args []) (fun a s₁ => wpAny M A (call f (first ++ a.pos) a.kw) Q E s₁) E s) :
    wpAny M A (callWith pos f first args []) Q E s := by
  unfold callWith
  refine wpAny_bind (wpAny_holding (wpAny_mono h (fun a s₁ h₁ => wpAny_bind (wpAny_standAt ?_)) fun _ _ x => x))
  simp only [hplain, List.any_nil, Bool.or_false]
  have hk : keeperOf f = pure Keeper.machine := by
    cases f <;> first | rfl | exact absurd rfl (hf _)
  rw [hk]
  refine wpAny_bind (wpAny_pure ?_)
  exact wpAny_bind (wpAny_mono h₁ (fun r s₂ hr => wpAny_bind (wpAny_holding (wpAny_point (wpAny_pure hr)))) fun _ _ x => x)

theorem plain_args (pos : Pos) (env : Env) : ∀ {es : List Expr}, (es.all fun | .Starred .. => false | _ => true) = true → (backTo pos (starEach es env)).any (·.1) = false
  | [], _ => rfl
  | e :: es, h => by
    rw [List.all_cons, Bool.and_eq_true] at h
    have ih := plain_args pos env h.2
    cases e <;> first | exact ih | exact absurd h.1 (by simp)

theorem evalArgs_any {M : Model} {A : Around} {E : Value → Shared → Prop} {s : Shared} {f : Value} {env : Env} {pos : Pos} {Q : Args → Shared → Prop} {es : List Expr} (hp : (es.all fun | .Starred .. => false | _ => true) = true)
    (h : wpAny M A (spliced (backTo pos (starEach es env))) (fun vs s' => Q ⟨vs, []⟩ s') E s) : wpAny M A (evalArgs f true (backTo pos (starEach es env)) []) Q E s := by
  have key : ∀ trees : List (Bool × Sem Value), trees.any (·.1) = false → wpAny M A (spliced trees) (fun vs s' => Q ⟨vs, []⟩ s') E s → wpAny M A (evalArgs f true trees []) Q E s := by
    intro trees ht hx
    match trees, ht with
    | [], _ =>
      unfold evalArgs
      show wpAny M A (spliced [] >>= _) Q E s
      refine wpAny_bind (wpAny_mono hx (fun vs s' h' => wpAny_bind (wpAny_pure ?_)) fun _ _ q => q)
      refine wpAny_holding ?_
      exact wpAny_bind (wpAny_pure (wpAny_bind (wpAny_pure (wpAny_pure h'))))
    | (b, x) :: rest, ht =>
      have hb : b = false := by
        rw [List.any_cons, Bool.or_eq_false_iff] at ht
        exact ht.1
      subst hb
      exact evalArgs_plain hx
  exact key _ (plain_args pos env hp) h


theorem WE.call {id : Str} {p pos : Pos} {es : List Expr} (h : WL G n cx id loc σ fun f σ₁ => ∃ v, f = .top v ∧ (∀ a, v ≠ .ref a) ∧ WEs G n cx es loc σ₁ fun vs σ₂ => OCall G n f vs σ₂ P)
    (hp : (es.all fun | .Starred .. => false | _ => true) = true := by rfl) (hd : (id == ("__debug__" : Str)) = false := by decide) : WE G n cx (.Call (.Name id p) es [] pos) loc σ P := by
  intro A fr env L ρ s Q hA hact hrel hQ
  refine wpAny_Call_Name_kw (wpAny_Name (h A fr env L ρ s _ hA hact hrel ?_) hd)
  rintro ρ₁ f vf _ σ₁ h₁ t₁ S₁ R₁ rel₁ ⟨rfl, v, rfl, hv, hP₁⟩
  cases R₁
  refine callWith_top hv (plain_args pos env hp) (evalArgs_any hp (hP₁ pos A fr env L ρ₁ _ _ hA (hact.mono S₁.pre) rel₁ ?_))
  rintro ρ₂ vs us _ σ₂ h₂ t₂ S₂ R₂ rel₂ ⟨rfl, hP₂⟩
  refine hP₂ A fr L ρ₂ _ (vf :: us) _ _ hA rel₂ ⟨rfl, R₂⟩ ?_
  rintro ρ₃ w vw σ₃ h₃ t₃ S₃ R₃ rel₃ hP₃
  exact hQ ρ₃ w vw _ σ₃ h₃ t₃ (S₁.trans (S₂.trans S₃)) R₃ rel₃ ⟨rfl, hP₃⟩

theorem WE.callD {id : Str} {p pos : Pos} {es : List Expr} {f : Addr} {oc : Value} {od : Option Addr} {fd : FuncData} {osl : Array (Option Value)} (hf : G.K.lookup f = some ⟨oc, od, .func fd, osl⟩) (h : WL G n cx id loc σ fun g σ₁ => g = .top (.ref f) ∧ WEs G n cx es loc σ₁ fun vs σ₂ => OCall G n g vs σ₂ P)
    (hp : (es.all fun | .Starred .. => false | _ => true) = true := by rfl) (hd : (id == ("__debug__" : Str)) = false := by decide) : WE G n cx (.Call (.Name id p) es [] pos) loc σ P := by
  intro A fr env L ρ s Q hA hact hrel hQ
  refine wpAny_Call_Name_kw (wpAny_Name (h A fr env L ρ s _ hA hact hrel ?_) hd)
  rintro ρ₁ g vf _ σ₁ h₁ t₁ S₁ R₁ rel₁ ⟨rfl, rfl, hP₁⟩
  cases R₁
  refine callWith_function (o := ⟨oc, od, .func fd, osl⟩) (fd := fd) (evalArgs_any hp (hP₁ pos A fr env L ρ₁ _ _ hA (hact.mono S₁.pre) rel₁ ?_))
  rintro ρ₂ vs us _ σ₂ h₂ t₂ S₂ R₂ rel₂ ⟨rfl, hP₂⟩
  refine ⟨⟨rel₂.base _ _ (G.X _ _ hf), rfl⟩, hP₂ A fr L ρ₂ _ (.ref f :: us) _ _ hA rel₂ ⟨rfl, R₂⟩ ?_⟩
  rintro ρ₃ w vw σ₃ h₃ t₃ S₃ R₃ rel₃ hP₃
  exact hQ ρ₃ w vw _ σ₃ h₃ t₃ (S₁.trans (S₂.trans S₃)) R₃ rel₃ ⟨rfl, hP₃⟩

/-! entering a def -/
noncomputable def idx : List Str → Nat → List (Str × Nat)
  | [], _ => []
  | x :: xs, k => (x, k) :: idx xs (k + 1)
noncomputable def cellNames (sc : Scope) : List Str := (cellsFrom 0 sc.names []).map (·.1)
noncomputable def bindLM (kd : Str → Option NameKind) : List (Str × MV) → Loc → Loc
  | [], l => l
  | (x, v) :: r, l => bindLM kd r (if kd x = some .local then (x, v) :: l else l)
noncomputable def bindCM (kd : Str → Option NameKind) : List (Str × MV) → (Str → Option MV) → Str → Option MV
  | [], m => m
  | (x, v) :: r, m => bindCM kd r (if kd x = some .local then m else fun y => if y = x then some v else m y)

theorem bindL_rel {ρ : List Addr} {kd : Str → Option NameKind} : ∀ (xs : List Str) (vs : List MV) (us : List Value) (l : Loc) (m : Str → Option Value), RVs ρ vs us → (∀ x v, l.lookup x = some v → ∃ v', m x = some v' ∧ RV ρ v v') →
    ∀ x v, (bindLM kd (xs.zip vs) l).lookup x = some v → ∃ v', bindL kd (xs.zip us) m x = some v' ∧ RV ρ v v'
  | [], vs, us, l, m, _, h => by intro x v; simpa [bindLM, bindL] using h x v
  | _ :: _, [], [], l, m, _, h => by intro x v; simpa [bindLM, bindL] using h x v
  | y :: ys, v :: vs, u :: us, l, m, r, h => by
    simp only [List.zip_cons_cons, bindLM, bindL]
    by_cases hk : kd y = some .local
    · rw [if_pos hk, if_pos hk]
      refine bindL_rel ys vs us _ _ r.2 fun x w hx => ?_
      rw [List.lookup_cons] at hx
      by_cases e : x = y
      · subst e; simp at hx; subst hx; exact ⟨u, by simp, r.1⟩
      · have : (x == y) = false := beq_eq_false_iff_ne.mpr e
        rw [this] at hx
        obtain ⟨v', e1, e2⟩ := h x w hx
        exact ⟨v', by simp [e, e1], e2⟩
    · rw [if_neg hk, if_neg hk]; exact bindL_rel ys vs us _ _ r.2 h
  | _ :: _, _ :: _, [], _, _, r, _ => r.elim
  | _ :: _, [], _ :: _, _, _, r, _ => r.elim
noncomputable def RVo (ρ : List Addr) : Option MV → Option Value → Prop
  | some m, o => ∃ v, o = some v ∧ RV ρ m v
  | none, o => o = none
theorem bindC_rel {ρ : List Addr} {kd : Str → Option NameKind} : ∀ (xs : List Str) (vs : List MV) (us : List Value) (l : Str → Option MV) (m : Str → Option Value), RVs ρ vs us → (∀ x, RVo ρ (l x) (m x)) →
    ∀ x, RVo ρ (bindCM kd (xs.zip vs) l x) (bindC kd (xs.zip us) m x)
  | [], vs, us, l, m, _, h => by intro x; simpa [bindCM, bindC] using h x
  | _ :: _, [], [], l, m, _, h => by intro x; simpa [bindCM, bindC] using h x
  | y :: ys, v :: vs, u :: us, l, m, r, h => by
    simp only [List.zip_cons_cons, bindCM, bindC]
    by_cases hk : kd y = some .local
    · rw [if_pos hk, if_pos hk]; exact bindC_rel ys vs us _ _ r.2 h
    · rw [if_neg hk, if_neg hk]
      refine bindC_rel ys vs us _ _ r.2 fun x => ?_
      by_cases e : x = y
      · simp only [e, if_true]; exact ⟨u, rfl, r.1⟩
      · simp only [e, if_false]; exact h x
  | _ :: _, _ :: _, [], _, _, r, _ => r.elim
  | _ :: _, [], _ :: _, _, _, r, _ => r.elim

theorem idx_lookup : ∀ {cs : List (Str × Addr)} {k0 k : Nat} {x : Str}, (idx (cs.map (·.1)) k0).lookup x = some k → ∃ a, k0 ≤ k ∧ (cs.map (·.2))[k - k0]? = some a ∧ cs.lookup x = some a
  | [], _, _, _, h => by cases h
  | (y, a) :: cs, k0, k, x, h => by
    simp only [List.map_cons, idx, List.lookup_cons] at h ⊢
    cases e : x == y with
    | true => rw [e] at h; cases h; exact ⟨a, Nat.le_refl _, by simp, rfl⟩
    | false =>
      rw [e] at h
      obtain ⟨b, h1, h2, h3⟩ := idx_lookup h
      refine ⟨b, by lia, ?_, h3⟩
      have : k - k0 = (k - (k0 + 1)) + 1 := by lia
      rw [this, List.getElem?_cons_succ]; exact h2

theorem RV.pre {ρ : List Addr} (t : List Addr) {m : MV} {v : Value} (h : RV ρ m v) : RV (ρ ++ t) m v := h.mono (List.prefix_append _ _)

theorem Rel.enter {fr : List Env} {L : Addr} {ρ : List Addr} {s : Shared} {env : Env} {L' : Addr} {cs : List (Str × Addr)} {xs : List Str} {vs : List MV} {us : List Value} {h₁ : Heap} {kd : Str → Option NameKind}
    (hrel : Rel G fr L ρ loc σ s.heap) (hus : RVs ρ vs us) (hL' : L' = s.heap.objs.size) (hfr : env.frame = some L') (hkind : env.scope.kind ≠ .module)
    (hn : h₁.Ns L' (bindL kd (xs.zip us) fun _ => none)) (hk : ∀ b o, s.heap.get? b = some o → h₁.get? b = some o)
    (hc : ∀ x c, cs.lookup x = some c → h₁.IsCell c (bindC kd (xs.zip us) (fun _ => none) x)) (hap : cs.Pairwise fun x y => x.2 ≠ y.2) (hab : ∀ x c, (x, c) ∈ cs → L' < c) (hnd : (cs.map (·.1)).Nodup) :
    Rel G (env :: fr) L' (ρ ++ cs.map (·.2)) (bindLM kd (xs.zip vs) []) (σ ++ (cs.map (·.1)).map fun c => .cell (bindCM kd (xs.zip vs) (fun _ => none) c)) h₁ := by
  have hno : ∀ a, s.heap.objs.size ≤ a → s.heap.get? a = none := fun a ha => by
    cases e : s.heap.get? a with
    | none => rfl
    | some o => exact absurd (Heap.lt_size e) (Nat.not_lt.mpr ha)
  have hbase : ∀ a, s.heap.objs.size ≤ a → G.H₀.get? a = none := fun a ha => by
    cases e : G.H₀.get? a with
    | none => rfl
    | some o => have := hrel.base a o e; rw [hno a ha] at this; cases this
  have hcs : ∀ a ∈ cs.map (·.2), s.heap.objs.size < a := fun a ha => by
    obtain ⟨⟨x, c⟩, hm, rfl⟩ := List.mem_map.mp ha
    have := hab x c hm
    rw [hL'] at this; exact this
  have hle : s.heap.objs.size ≤ L' := Nat.le_of_eq hL'.symm
  have hlive : ∀ a ∈ ρ, a < s.heap.objs.size := fun a ha => let ⟨o, ho⟩ := hrel.live ha; Heap.lt_size ho
  refine ⟨fun b o e => hk b o (hrel.base b o e), by simp [hrel.len], ?_, ?_, ?_, hbase L' hle, ?_, ⟨_, hn, ?_⟩, ?_, ?_⟩
  · rw [List.nodup_append]
    refine ⟨hrel.nodup, ?_, fun a ha b hb e => ?_⟩
    · rw [List.nodup_iff_pairwise_ne, List.pairwise_map]
      exact hap
    · have h1 := hlive a ha
      have h2 := hcs b hb
      rw [e] at h1; exact absurd (Nat.lt_trans h1 h2) (Nat.lt_irrefl _)
  · intro a ha
    rcases List.mem_append.mp ha with h | h
    · exact hrel.lo a h
    · exact hbase a (Nat.le_of_lt (hcs a h))
  · intro hm
    rcases List.mem_append.mp hm with h | h
    · exact absurd (hlive L' h) (Nat.not_lt.mpr hle)
    · exact Nat.lt_irrefl _ (hL' ▸ hcs L' h)
  · intro k mo a e1 e2
    by_cases hks : k < σ.length
    · rw [List.getElem?_append_left hks] at e1
      rw [List.getElem?_append_left (by rw [hrel.len]; exact hks)] at e2
      obtain ⟨o, ho, q⟩ := hrel.objs k mo a e1 e2
      exact ⟨o, hk _ _ ho, q.mono (List.prefix_append _ _)⟩
    · rw [List.getElem?_append_right (by lia)] at e1
      rw [List.getElem?_append_right (by rw [hrel.len]; lia), hrel.len] at e2
      rw [List.getElem?_map, List.getElem?_map, Option.map_eq_some_iff] at e1
      obtain ⟨x, e1, rfl⟩ := e1
      rw [Option.map_eq_some_iff] at e1
      obtain ⟨⟨x', c⟩, e1, rfl⟩ := e1
      rw [List.getElem?_map, e1] at e2
      simp at e2
      subst e2
      obtain ⟨o, ho, hd⟩ := hc x' c (lookup_of_mem_nodup hnd (List.mem_of_getElem? e1))
      refine ⟨o, ho, ?_⟩
      have r := bindC_rel (kd := kd) xs vs us (fun _ => none) (fun _ => none) hus (fun _ => rfl) x'
      show RO _ (.cell (bindCM kd (xs.zip vs) (fun _ => none) x')) o
      cases e : bindCM kd (xs.zip vs) (fun _ => none) x' with
      | none => rw [e] at r; rw [r] at hd; exact hd
      | some mv =>
        rw [e] at r
        obtain ⟨v, e', r⟩ := r
        rw [e'] at hd
        exact ⟨v, hd, r.mono (List.prefix_append _ _)⟩
  · intro x v hx
    obtain ⟨v', e, r⟩ := bindL_rel (kd := kd) xs vs us [] (fun _ => none) hus (fun _ _ h => by cases h) x v hx
    exact ⟨v', e, r.mono (List.prefix_append _ _)⟩
  · refine .cons hkind hfr hn (hbase L' hle) (ff_of hrel.ff fun b _ o e hd => ⟨o, hk b o e, hd⟩)
  · intro b hb hm
    have : b = L' ∨ b ∈ frs fr := by
      simp only [frs, List.filterMap_cons, hfr] at hb
      exact List.mem_cons.mp hb
    rcases this with rfl | hb'
    · rcases List.mem_append.mp hm with h | h
      · exact absurd (hlive b h) (Nat.not_lt.mpr hle)
      · exact Nat.lt_irrefl _ (hL' ▸ hcs b h)
    · have hlt := ff_lt hrel.ff hb'
      rcases List.mem_append.mp hm with h | h
      · exact hrel.frn b hb' h
      · exact absurd (Nat.lt_trans hlt (hcs b h)) (Nat.lt_irrefl _)
end
end Mine

namespace Mine

section
variable {G : Gl} {n : Nat} {cx : Cx} {loc : Loc} {σ : List MO} {P : MV → List MO → Prop}

theorem Rel.leave {fr : List Env} {L L' : Addr} {ρ ρ₁ ρ' : List Addr} {h₀ h₁ h' : Heap} {env : Env} {loc' : Loc} {σ' : List MO}
    (hrel : Rel G fr L ρ loc σ h₀) (hL' : L' = h₀.objs.size) (hfr : env.frame = some L') (hk : ∀ b o, h₀.get? b = some o → h₁.get? b = some o)
    (hρ : ρ <+: ρ₁) (hfresh : ∀ a ∈ ρ₁, a ∉ ρ → h₀.objs.size < a) (S : Step (env :: fr) ρ₁ ρ' L' h₁ h') (r : Rel G (env :: fr) L' ρ' loc' σ' h') :
    Step fr ρ ρ' L h₀ h' ∧ Rel G fr L ρ' loc σ' h' := by
  have hfrs : ∀ b, b ∈ frs (env :: fr) → b = L' ∨ b ∈ frs fr := fun b hb => by
    simp only [frs, List.filterMap_cons, hfr] at hb
    exact List.mem_cons.mp hb
  have hlt : ∀ b o, h₀.get? b = some o → b ≠ L' := fun b o e q => absurd (Heap.lt_size e) (by rw [q, hL']; exact Nat.lt_irrefl _)
  have hn1 : ∀ b o, h₀.get? b = some o → b ∉ ρ → b ∉ ρ₁ := fun b o e hb hm => absurd (Nat.lt_trans (Heap.lt_size e) (hfresh b hm hb)) (Nat.lt_irrefl _)
  have keep : ∀ b o, b ∉ ρ → h₀.get? b = some o → ∃ o', h'.get? b = some o' ∧ (o' = o ∨ (b ∈ frs fr ∧ ∃ sl, o' = { o with slots := sl })) := fun b o hb e => by
    obtain ⟨o', e', q⟩ := S.keep b o (hn1 b o e hb) (hlt b o e) (hk b o e)
    refine ⟨o', e', ?_⟩
    rcases q with rfl | ⟨hf, sl⟩
    · exact .inl rfl
    · rcases hfrs b hf with h | h
      · exact absurd h (hlt b o e)
      · exact .inr ⟨h, sl⟩
  have nL : L ∉ ρ' := fun hm => by
    obtain ⟨m, ⟨oL, es, ep, eL, q⟩, hm'⟩ := hrel.ns
    by_cases h1 : L ∈ ρ₁
    · exact hn1 L oL eL hrel.nL h1
    · have := S.fresh L hm h1
      rw [hk L oL eL] at this; cases this
  refine ⟨⟨hρ.trans S.pre, fun b o hb _ e => keep b o hb e, fun a ha hn => ?_, fun _ => nL⟩, r.base, r.len, r.nodup, r.lo, nL, hrel.loL, r.objs, ?_, r.ff.2.2, fun b hb => r.frn b (by simp only [frs, List.filterMap_cons, hfr]; exact List.mem_cons_of_mem _ hb)⟩
  · by_cases h1 : a ∈ ρ₁
    · have := hfresh a h1 hn
      cases e : h₀.get? a with
      | none => rfl
      | some o => exact absurd (Nat.lt_trans (Heap.lt_size e) this) (Nat.lt_irrefl _)
    · have := S.fresh a ha h1
      cases e : h₀.get? a with
      | none => rfl
      | some o => rw [hk a o e] at this; cases this
  · obtain ⟨m, ⟨oL, es, ep, eL, d, q⟩, hm⟩ := hrel.ns
    obtain ⟨o', e', q'⟩ := keep L oL hrel.nL eL
    have hd : o'.data = oL.data := by rcases q' with rfl | ⟨_, sl, rfl⟩ <;> rfl
    exact ⟨m, ⟨o', es, ep, e', by rw [hd]; exact d, q⟩, fun x v hx => let ⟨v', e1, e2⟩ := hm x v hx; ⟨v', e1, e2.mono (hρ.trans S.pre)⟩⟩

theorem OCall.def {f : Addr} {oc : Value} {od : Option Addr} {osl : Array (Option Value)} {name qual : Str} {params : Arguments} {body : List Stmt} {scope : Scope} {dV kV doc pm cdv ct : Value} {an : Option Addr} (xs : List Str) {vs : List MV}
    (ho : G.K.lookup f = some ⟨oc, od, .func (fnOf name qual params body scope dV kV doc pm an cdv ct), osl⟩) (hcd : codeIn G.K cdv qual = true)
    (hb : ∀ us : List Value, us.length = vs.length → bindArgs (fnOf name qual params body scope dV kV doc pm an cdv ct) ⟨us, []⟩ = pure (xs.zip us))
    (hkx : (xs.all fun y => scope.names.lookup y == some .local || (scope.names.lookup y == some .cell && ((cellsFrom 0 scope.names []).lookup y).isSome)) = true)
    (hnd : (cellNames scope).Nodup) (hco : scope.isCoroutine = false) (hgen : scope.isGenerator = false) (hk : scope.kind = .function)
    (h : WX G n ⟨scope, idx (cellNames scope) σ.length⟩ body (bindLM (scope.names.lookup ·) (xs.zip vs) []) (σ ++ (cellNames scope).map fun c => .cell (bindCM (scope.names.lookup ·) (xs.zip vs) (fun _ => none) c)) fun f _ σ' => ∃ v, f = .ret v ∧ P v σ') :
    OCall G (n + 1) (.top (.ref f)) vs σ P := by
  intro A fr L ρ loc us₀ s Q hA hrel hus₀ hQ
  match us₀, hus₀ with
  | uf :: us, ⟨hf, hus⟩ =>
  cases hf
  have hcells : ∀ k, (cellsFrom k scope.names []).map (·.1) = cellNames scope := fun k => cellsFrom_names _ _ _ _ _ rfl
  have hsome : ∀ (cs cs' : List (Str × Addr)) (y : Str), cs.map (·.1) = cs'.map (·.1) → ((cs.lookup y).isSome = true) → (cs'.lookup y).isSome = true := by
    intro cs
    induction cs with
    | nil => intro cs' y e h; cases h
    | cons c cs ih =>
      intro cs' y e h
      match cs', e with
      | c' :: cs', e =>
        simp only [List.map_cons, List.cons.injEq] at e
        obtain ⟨a, b⟩ := c
        obtain ⟨a', b'⟩ := c'
        simp only [List.lookup_cons] at h ⊢
        cases e.1
        cases q : y == a with
        | true => rfl
        | false => rw [q] at h; exact ih cs' y e.2 h
  refine wpAny_call (codeAny_call_cells (fd := fnOf name qual params body scope dV kV doc pm an cdv ct) (body := body) (binds := xs.zip us) (Nat.lt_of_le_of_lt (Nat.le_add_right _ _) hA.depth) (hrel.base _ _ (G.X _ _ ho)) rfl (G.T.nolimit.keeps hrel.base)
    (codeRec_of (G.X.keeps hrel.base) hcd) rfl (hb us hus.length) rfl (fun x hx => ?_) ?_ hco hgen hk)
  · have hx' := (List.of_mem_zip (a := x.1) (b := x.2) hx).1
    have := List.all_eq_true.mp hkx _ hx'
    rcases Bool.or_eq_true_iff.mp this with q | q
    · exact .inl (by simpa using q)
    · obtain ⟨q1, q2⟩ := Bool.and_eq_true_iff.mp q
      exact .inr ⟨by simpa using q1, hsome _ _ _ (by rw [hcells, hcells]) q2⟩
  · intro s₁ hin
    obtain ⟨h₁, t₁, rfl⟩ := hin.toInCall.same
    have hnd' : (((callEnvC (fnOf name qual params body scope dV kV doc pm an cdv ct) s.heap.objs.size f).cells).map (·.1)).Nodup := by
      show ((cellsFrom (s.heap.objs.size + 1) scope.names []).map (·.1)).Nodup
      rw [hcells]; exact hnd
    have ent := hrel.enter (env := callEnvC (fnOf name qual params body scope dV kV doc pm an cdv ct) s.heap.objs.size f) (L' := s.heap.objs.size) (xs := xs) hus rfl rfl (by show scope.kind ≠ .module; rw [hk]; decide)
      hin.toInCall.ns hin.toInCall.keep hin.cell hin.apart hin.above hnd'
    have ecs : (callEnvC (fnOf name qual params body scope dV kV doc pm an cdv ct) s.heap.objs.size f).cells.map (·.1) = cellNames scope := hcells _
    rw [ecs] at ent
    refine wpAny_mono (h (A.deeper (callEnvC (fnOf name qual params body scope dV kV doc pm an cdv ct) s.heap.objs.size f)) (callEnvC (fnOf name qual params body scope dV kV doc pm an cdv ct) s.heap.objs.size f :: fr) (callEnvC (fnOf name qual params body scope dV kV doc pm an cdv ct) s.heap.objs.size f) s.heap.objs.size _ _
      (fun fl s' => match fl with | .ret v => Q v s' | _ => False) ⟨hA.handled, ?_, ?_, ?_⟩ ⟨rfl, rfl, rfl, rfl, ?_⟩ ent ?_) (fun fl s' hq => ?_) fun _ _ x => x.elim
    · have := hA.depth
      show A.depth + 1 + n < _
      lia
    · have := hA.units
      show A.units + 3 + 16 * n + 8 < _
      lia
    · show A.frames.map _ = _
      rw [hA.frames]; rfl
    · intro x k hx
      rw [← ecs] at hx
      obtain ⟨a, h1, h2, h3⟩ := idx_lookup hx
      refine ⟨a, ?_, h3⟩
      rw [List.getElem?_append_right (by rw [hrel.len]; exact h1), hrel.len]
      exact h2
    · rintro ρ' fl vfl loc' σ' h' t' S R r ⟨v, rfl, hP⟩
      obtain ⟨vv, rfl, rv⟩ := R
      obtain ⟨S', r'⟩ := hrel.leave (env := callEnvC (fnOf name qual params body scope dV kV doc pm an cdv ct) s.heap.objs.size f) rfl rfl hin.toInCall.keep (List.prefix_append _ _) (fun a ha hn => by
        rcases List.mem_append.mp ha with h | h
        · exact absurd h hn
        · obtain ⟨⟨x, c⟩, hm, rfl⟩ := List.mem_map.mp h
          exact hin.above x c hm) S r
      exact hQ ρ' v vv σ' h' t' S' rv r' hP
    · cases fl with
      | ret v => exact hq
      | next => exact hq.elim
      | brk => exact hq.elim
      | cont => exact hq.elim
end
end Mine

namespace Mine

section
variable {G : Gl} {n : Nat} {cx : Cx} {loc : Loc} {σ : List MO} {P : MV → List MO → Prop}

noncomputable def relabelM (scope : Scope) (cx : Cx) : Scope :=
  { scope with names := scope.names.map fun (n, k) => if (k == .free && cx.scope.kind == .function && cx.scope.names.lookup n == some .cell) then (n, .cell) else (n, k) }
theorem relabelM_eq {cx : Cx} {ρ : List Addr} {L : Addr} {env : Env} (a : Act cx ρ L env) (scope : Scope) : relabel scope env = relabelM scope cx := by
  unfold relabel relabelM Env.kindOf
  rw [a.scope]

noncomputable def freeIdx (cs : List (Str × Nat)) : List (Str × NameKind) → List (Str × Nat) → List (Str × Nat)
  | [], acc => acc
  | (x, k) :: r, acc => freeIdx cs r (if k == .free then (x, (cs.lookup x).getD 0) :: acc else acc)
noncomputable def freeAddr (cs : List (Str × Addr)) : List (Str × NameKind) → List (Str × Addr) → List (Str × Addr)
  | [], acc => acc
  | (x, k) :: r, acc => freeAddr cs r (if k == .free then (x, (cs.lookup x).getD 0) :: acc else acc)

theorem closure_pure {scope : Scope} {env : Env} (h : (scope.names.all fun x => x.2 != .free || (env.cells.lookup x.1).isSome) = true) : closureFor scope env = pure (freeAddr env.cells scope.names []) := by
  have key : ∀ (f : Str × NameKind → List (Str × Addr) → Sem (ForInStep (List (Str × Addr)))) (hf : ∀ x k r, f (x, k) r = if (k == NameKind.free) = true then (do let a ← cellOf env x; pure (ForInStep.yield ((x, a) :: r))) else pure (ForInStep.yield r))
      (names : List (Str × NameKind)) (acc : List (Str × Addr)), (names.all fun x => x.2 != .free || (env.cells.lookup x.1).isSome) = true → forIn names acc f = pure (freeAddr env.cells names acc) := by
    intro f hf names
    induction names with
    | nil => intro acc _; rfl
    | cons x r ih =>
      intro acc h
      obtain ⟨x, k⟩ := x
      rw [List.all_cons, Bool.and_eq_true] at h
      rw [List.forIn_cons, hf]
      cases hk : k == NameKind.free with
      | true =>
        have hs := h.1
        simp only [bne, hk, Bool.not_true, Bool.false_or] at hs
        obtain ⟨a, ha⟩ := Option.isSome_iff_exists.mp hs
        simp only [hk, if_true, cellOf, ha, pure_bind, freeAddr, Option.getD_some]
        exact ih _ h.2
      | false =>
        simp only [hk, Bool.false_eq_true, if_false, pure_bind, freeAddr]
        exact ih _ h.2
  unfold closureFor
  show (forIn scope.names [] _ >>= fun cs => pure cs) = _
  rw [key _ (fun x k r => rfl) _ _ h]
  rfl

theorem free_lookup {cs : List (Str × Nat)} {as : List (Str × Addr)} {ρ : List Addr} (hc : ∀ x k, cs.lookup x = some k → ∃ a, ρ[k]? = some a ∧ as.lookup x = some a) :
    ∀ (names : List (Str × NameKind)) (acc : List (Str × Nat)) (acc' : List (Str × Addr)), (names.all fun x => x.2 != .free || (cs.lookup x.1).isSome) = true →
      (∀ x k, acc.lookup x = some k → ∃ a, ρ[k]? = some a ∧ acc'.lookup x = some a) →
      (∀ x k, (freeIdx cs names acc).lookup x = some k → ∃ a, ρ[k]? = some a ∧ (freeAddr as names acc').lookup x = some a)
  | [], _, _, _, h => h
  | (x, k) :: r, acc, acc', ha, h => by
    rw [List.all_cons, Bool.and_eq_true] at ha
    unfold freeIdx freeAddr
    refine free_lookup hc r _ _ ha.2 ?_
    cases hk : k == NameKind.free with
    | true =>
      have hs := ha.1
      simp only [bne, hk, Bool.not_true, Bool.false_or] at hs
      obtain ⟨j, hj⟩ := Option.isSome_iff_exists.mp hs
      obtain ⟨a, h1, h2⟩ := hc x j hj
      simp only [if_true, hj, h2, Option.getD_some]
      intro y i hy
      rw [List.lookup_cons] at hy ⊢
      cases e : y == x with
      | true => rw [e] at hy; cases hy; exact ⟨a, h1, rfl⟩
      | false => rw [e] at hy; exact h y i hy
    | false => simpa only [Bool.false_eq_true, if_false] using h

theorem cellsFrom_acc : ∀ (names : List (Str × NameKind)) (k : Nat) (acc : List (Str × Addr)), cellsFrom k names acc = cellsFrom k names [] ++ acc
  | [], _, _ => rfl
  | (x, kind) :: r, k, acc => by
    unfold cellsFrom
    split
    · rw [cellsFrom_acc r (k + 1) ((x, k) :: acc), cellsFrom_acc r (k + 1) [(x, k)]]; simp
    · exact cellsFrom_acc r k acc

noncomputable def compCx (scope : Scope) (cx : Cx) (k : Nat) : Cx := ⟨relabelM scope cx, idx (cellNames scope) k ++ freeIdx cx.cells scope.names []⟩

theorem lookup_append {α : Type} (x : Str) : ∀ (l₁ l₂ : List (Str × α)), (l₁ ++ l₂).lookup x = (l₁.lookup x).or (l₂.lookup x)
  | [], l₂ => by simp
  | (y, v) :: l₁, l₂ => by
    rw [List.cons_append, List.lookup_cons, List.lookup_cons]
    cases x == y with
    | true => rfl
    | false => exact lookup_append x l₁ l₂

theorem idx_none : ∀ {cs : List (Str × Addr)} {k0 : Nat} {x : Str}, (idx (cs.map (·.1)) k0).lookup x = none → cs.lookup x = none
  | [], _, _, _ => rfl
  | (y, a) :: cs, k0, x, h => by
    simp only [List.map_cons, idx, List.lookup_cons] at h ⊢
    cases e : x == y with
    | true => rw [e] at h; cases h
    | false => rw [e] at h; exact idx_none h

theorem Rel.inner {fr : List Env} {L : Addr} {ρ : List Addr} {h : Heap} {scope : Scope} (hrel : Rel G fr L ρ loc σ h) (hnd : (cellNames scope).Nodup) :
    let h' := pushCells (h.push { cls := .type "dict", data := .dict #[] }) scope.names
    let cs := cellsFrom (h.objs.size + 1) scope.names []
    Rel G fr h.objs.size (ρ ++ cs.map (·.2)) [] (σ ++ (cellNames scope).map fun _ => .cell none) h' ∧ (∀ b o, h.get? b = some o → h'.get? b = some o) ∧ (∀ a ∈ cs.map (·.2), h.objs.size < a) := by
  intro h' cs
  have hk : ∀ b o, h.get? b = some o → h'.get? b = some o := fun b o e => pushCells_keeps _ _ b o (Heap.get?_push_of_some _ e)
  have ok := cellsFrom_ok scope.names (h.push { cls := .type "dict", data := .dict #[] }) (h.objs.size + 1) [] ⟨fun _ _ hm => (nomatch hm), List.Pairwise.nil⟩ (by rw [Heap.size_push]; exact Nat.le_refl _)
  rw [Heap.size_push] at ok
  have hno : ∀ a, h.objs.size ≤ a → h.get? a = none := fun a ha => by
    cases e : h.get? a with
    | none => rfl
    | some o => exact absurd (Heap.lt_size e) (Nat.not_lt.mpr ha)
  have hbase : ∀ a, h.objs.size ≤ a → G.H₀.get? a = none := fun a ha => by
    cases e : G.H₀.get? a with
    | none => rfl
    | some o => have := hrel.base a o e; rw [hno a ha] at this; cases this
  have hcs : ∀ a ∈ cs.map (·.2), h.objs.size < a := fun a ha => by
    obtain ⟨⟨x, c⟩, hm, rfl⟩ := List.mem_map.mp ha
    exact (ok.empty x c hm).2
  have hlive : ∀ a ∈ ρ, a < h.objs.size := fun a ha => let ⟨o, ho⟩ := hrel.live ha; Heap.lt_size ho
  have hnames : cs.map (·.1) = cellNames scope := cellsFrom_names _ _ _ _ _ rfl
  have hlen : cs.length = (cellNames scope).length := by rw [← hnames, List.length_map]
  refine ⟨⟨fun b o e => hk b o (hrel.base b o e), by simp [hrel.len, hlen], ?_, ?_, ?_, hbase _ (Nat.le_refl _), ?_, ⟨fun _ => none, (Heap.Ns.new h (.type "dict")).keeps (pushCells_keeps _ _), fun x v hx => by cases hx⟩, ?_, ?_⟩, hk, hcs⟩
  · rw [List.nodup_append]
    refine ⟨hrel.nodup, ?_, fun a ha b hb e => ?_⟩
    · rw [List.nodup_iff_pairwise_ne, List.pairwise_map]
      exact ok.apart
    · have h1 := hlive a ha
      have h2 := hcs b hb
      rw [e] at h1; exact absurd (Nat.lt_trans h1 h2) (Nat.lt_irrefl _)
  · intro a ha
    rcases List.mem_append.mp ha with h | h
    · exact hrel.lo a h
    · exact hbase a (Nat.le_of_lt (hcs a h))
  · intro hm
    rcases List.mem_append.mp hm with h | h
    · exact absurd (hlive _ h) (Nat.lt_irrefl _)
    · exact Nat.lt_irrefl _ (hcs _ h)
  · intro k mo a e1 e2
    by_cases hks : k < σ.length
    · rw [List.getElem?_append_left hks] at e1
      rw [List.getElem?_append_left (by rw [hrel.len]; exact hks)] at e2
      obtain ⟨o, ho, q⟩ := hrel.objs k mo a e1 e2
      exact ⟨o, hk _ _ ho, q.mono (List.prefix_append _ _)⟩
    · rw [List.getElem?_append_right (by lia)] at e1
      rw [List.getElem?_append_right (by rw [hrel.len]; lia), hrel.len] at e2
      rw [List.getElem?_map, Option.map_eq_some_iff] at e1
      obtain ⟨_, _, rfl⟩ := e1
      rw [List.getElem?_map, Option.map_eq_some_iff] at e2
      obtain ⟨⟨x, c⟩, e2, rfl⟩ := e2
      obtain ⟨o, ho, hd⟩ := (ok.empty x c (List.mem_of_getElem? e2)).1
      exact ⟨o, ho, hd⟩
  · exact ff_of hrel.ff fun b _ o e hd => ⟨o, hk b o e, hd⟩
  · intro b hb hm
    have hlt := ff_lt hrel.ff hb
    rcases List.mem_append.mp hm with h | h
    · exact hrel.frn b hb h
    · exact absurd (Nat.lt_trans hlt (hcs b h)) (Nat.lt_irrefl _)


noncomputable def WA' (G : Gl) (n : Nat) (cx : Cx) (k : Nat) (t : Addr → Env → Sem Unit) (loc : Loc) (σ : List MO) (P : Loc → List MO → Prop) : Prop :=
  ∀ (A : Around) (fr : List Env) (env : Env) (L : Addr) (ρ : List Addr) (D : Addr) (s : Shared) (Q : Unit → Shared → Prop), OkA n fr A → Act cx ρ L env → Rel G fr L ρ loc σ s.heap → ρ[k]? = some D →
    (∀ ρ' loc' σ' h' tk', Step fr ρ ρ' L s.heap h' → Rel G fr L ρ' loc' σ' h' → P loc' σ' → Q () { s with heap := h', toks := tk' }) →
    wpAny (model G.prog G.w) A (t D env) Q NoE s

noncomputable def WTs (G : Gl) (n : Nat) (cx : Cx) (ifs : List Expr) (loc : Loc) (σ : List MO) (P : Bool → List MO → Prop) : Prop := match ifs with
  | [] => P true σ
  | [c] => WB G n cx c loc σ P
  | _ => False

theorem WTs.run {ifs : List Expr} {P : Bool → List MO → Prop} (h : WTs G n cx ifs loc σ P) {A : Around} {fr : List Env} {env : Env} {L : Addr} {ρ : List Addr} {s : Shared} {Q : Bool → Shared → Prop} (hA : OkA n fr A) (hact : Act cx ρ L env) (hrel : Rel G fr L ρ loc σ s.heap)
    (hQ : ∀ ρ' b σ' h' tk', Step fr ρ ρ' L s.heap h' → Rel G fr L ρ' loc σ' h' → P b σ' → Q b { s with heap := h', toks := tk' }) :
    wpAny (model G.prog G.w) A (forIn ifs true fun c r => if r = true then do let ok ← isTrue c env (eval c env); pure (ForInStep.yield ok) else pure (ForInStep.yield r)) Q NoE s := by
  match ifs, h with
  | [], h => exact wpAny_tests_nil (hQ ρ true σ s.heap s.toks .refl hrel h)
  | [c], h =>
    refine wpAny_tests_one (h A fr env L ρ s _ hA hact hrel ?_)
    rintro ρ' b vb _ σ' h' tk' S R r ⟨rfl, p⟩
    cases R
    exact hQ ρ' b σ' h' tk' S r p

noncomputable def compChain (G : Gl) (n : Nat) (cx : Cx) (k : Nat) (t : Expr) (ifs : List Expr) (tail : Addr → Env → Sem Unit) (ok : List MO → Prop) (P : Loc → List MO → Prop) : List MV → Loc → List MO → Prop
  | [], loc, σ => P loc σ
  | v :: vs, loc, σ => WA G n cx t v loc σ fun loc₁ σ₁ => WTs G n cx ifs loc₁ σ₁ fun b σ₂ =>
      (b = true → WA' G n cx k tail loc₁ σ₂ fun loc₃ σ₃ => ok σ₃ ∧ compChain G n cx k t ifs tail ok P vs loc₃ σ₃) ∧ (b = false → ok σ₂ ∧ compChain G n cx k t ifs tail ok P vs loc₁ σ₂)

theorem compLoop_any {elt : Expr} {gens : List Comprehension} {scope : Scope} {pos : Pos} {d : Nat} {t iter : Expr} {ifs : List Expr} {tail : Addr → Env → Sem Unit}
    (heq : ∀ it D env, compTurn (.ListComp elt gens scope pos) d it (.ref D) env = (do
      standAt iter.pos
      match ← pyNext it with
      | none => pure (.done .next)
      | some v =>
        letOwnedTupleGo t it v
        assign t env v
        let mut ok := true
        for c in ifs do
          if ok then ok ← isTrue c env (eval c env)
        if ok then tail D env
        again (.compLoop (.ListComp elt gens scope pos) d it (.ref D) env)))
    {A : Around} {fr : List Env} {env : Env} {L : Addr} {ρ ρb : List Addr} {hb : Heap} {k : Nat} {D I : Addr} {s : Shared} {R : Result → Shared → Prop} {xs : List MV} {ok : List MO → Prop} {P : Loc → List MO → Prop}
    (hA : OkA n fr A) (hact : Act cx ρ L env) (hrel : Rel G fr L ρ loc σ s.heap) (hD : ρ[k]? = some D) (it : Iter G n I xs ok) (off : Off G fr L ρ I) (st : it.st 0 ρ s.heap) (hok : ok σ)
    (hI : hb.get? I = none) (S₀ : Step fr ρb ρ L hb s.heap)
    (hch : compChain G n cx k t ifs tail ok P xs loc σ)
    (hR : ∀ ρ' loc' σ' h' tk', Step fr ρb ρ' L hb h' → ρ <+: ρ' → Rel G fr L ρ' loc' σ' h' → P loc' σ' → R (.ok .next) { s with heap := h', toks := tk' }) :
    codeAny (model G.prog G.w) A (.compLoop (.ListComp elt gens scope pos) d (.ref I) (.ref D) env) R s := by
  refine codeAny_loop rfl (fun j s' => ∃ ρ' loc' σ' h' tk' i, s' = { s with heap := h', toks := tk' } ∧ Step fr ρb ρ' L hb h' ∧ ρ <+: ρ' ∧ Rel G fr L ρ' loc' σ' h' ∧ Off G fr L ρ' I ∧ ok σ' ∧ it.st i ρ' h' ∧ compChain G n cx k t ifs tail ok P (xs.drop i) loc' σ' ∧ i ≤ xs.length ∧ j = xs.length - i) ?_ xs.length
    ⟨ρ, loc, σ, s.heap, s.toks, 0, rfl, S₀, List.prefix_rfl, hrel, off, hok, st, hch, Nat.zero_le _, rfl⟩
  rintro j _ ⟨ρ', loc', σ', h', tk', i, rfl, S', pre', rel', off', hok', st', hch', hi, rfl⟩
  show wpAny _ A ((compTurn (.ListComp elt gens scope pos) d (.ref I) (.ref D) env).onRaise (fun x => do noteFrame x env; theTreesLotGoes x)) _ _ _
  refine wpAny_noted (noted_no ?_)
  rw [heq]
  refine wpAny_bind (wpAny_standAt (wpAny_bind ?_))
  cases hx : xs[i]? with
  | none =>
    refine it.done hA rel' off' hok' st' hx fun h'' tk'' k'' => ?_
    have : xs.drop i = [] := by rw [List.drop_eq_nil_iff]; exact List.getElem?_eq_none_iff.mp hx
    rw [this] at hch'
    exact wpAny_pure (hR ρ' loc' σ' h'' tk'' (S'.but hI k'') pre' (rel'.but off' k'') hch')
  | some x =>
    refine it.next hA rel' off' hok' st' hx fun v h'' tk'' rv st'' k'' => ?_
    have rel'' := rel'.but off' k''
    have S'' := S'.but hI k''
    rw [drop_cons hx] at hch'
    obtain ⟨oI, eI⟩ := it.live st''
    refine wpAny_bind (it.plain t v st'' ?_)
    have hlt : i < xs.length := (List.getElem?_eq_some_iff.mp hx).1
    refine wpAny_bind (hch' A fr env L ρ' v _ _ hA (hact.mono pre') rel'' rv ?_)
    intro ρ₃ loc₃ σ₃ h₃ t₃ S₃ rel₃ hP₃
    have off₃ := off'.step S₃ eI
    have eI₃ := off'.kept S₃ eI
    have st₃ := it.keep st'' S₃.pre fun o e => off'.kept S₃ e
    have Sa := S''.trans S₃
    refine wpAny_bind (hP₃.run hA ((hact.mono pre').mono S₃.pre) rel₃ ?_)
    intro ρ₄ b σ₄ h₄ t₄ S₄ rel₄ hP₄
    have off₄ := off₃.step S₄ eI₃
    have eI₄ := off₃.kept S₄ eI₃
    have st₄ := it.keep st₃ S₄.pre fun o e => off₃.kept S₄ e
    have Sb := Sa.trans S₄
    have pre₄ : ρ <+: ρ₄ := (pre'.trans S₃.pre).trans S₄.pre
    cases b with
    | false =>
      obtain ⟨hok₄, hch₄⟩ := hP₄.2 rfl
      exact wpAny_pure ⟨rfl, xs.length - (i + 1), by lia, ρ₄, loc₃, σ₄, h₄, t₄, i + 1, rfl, Sb, pre₄, rel₄, off₄, hok₄, st₄, hch₄, hlt, rfl⟩
    | true =>
      refine wpAny_bind (hP₄.1 rfl A fr env L ρ₄ D _ _ hA (hact.mono pre₄) rel₄ (pre_get pre₄ hD) ?_)
      rintro ρ₅ loc₅ σ₅ h₅ t₅ S₅ rel₅ ⟨hok₅, hch₅⟩
      have off₅ := off₄.step S₅ eI₄
      have st₅ := it.keep st₄ S₅.pre fun o e => off₄.kept S₅ e
      exact wpAny_pure ⟨rfl, xs.length - (i + 1), by lia, ρ₅, loc₅, σ₅, h₅, t₅, i + 1, rfl, Sb.trans S₅, pre₄.trans S₅.pre, rel₅, off₅, hok₅, st₅, hch₅, hlt, rfl⟩
end
end Mine

namespace Mine

section
variable {G : Gl} {n : Nat} {cx : Cx} {loc : Loc} {σ : List MO} {P : MV → List MO → Prop}

theorem OCall.append {k : Nat} {xs : List MV} {v : MV} {P : MV → List MO → Prop} (hk : σ[k]? = some (.list xs)) (hl : xs.length ≤ 1000000) (h : P .none (σ.set k (.list (xs ++ [v])))) : OCall G n (.top (.builtin "list.append")) [.obj k, v] σ P := by
  intro A fr L ρ loc us s Q hA hrel hus hQ
  obtain ⟨f, u, w, rfl, hf, hu, hw⟩ := three hus
  cases hf
  obtain ⟨a, vs, m, rfl, ea, ha, hvs⟩ := hrel.atList hu hk
  refine wpAny_list_append_plain (items := vs.toArray) ⟨m, ha⟩ (fun h' hl' hs => ?_) (by rw [List.size_toArray, hvs.length, sizeLine_eq]; lia)
  obtain ⟨m', e'⟩ := hl'
  have hs' : ∀ b ob, b ≠ a → s.heap.get? b = some ob → h'.get? b = some ob := fun b ob hb e => (hs.2 b hb).trans e
  rw [List.push_toArray] at e'
  exact hQ ρ .none .none _ h' s.toks (.update ea hs') rfl (hrel.update (mo := .list (xs ++ [v])) ea hs' e' ⟨vs ++ [w], m', rfl, hvs.append ⟨hw, trivial⟩⟩) h

noncomputable def emitT (elt : Expr) (D : Addr) (env : Env) : Sem Unit := do let _ ← call (.builtin "list.append") [.ref D, ← eval elt env]
noncomputable def innerT (e : Expr) (d : Nat) (iter : Expr) (D : Addr) (env : Env) : Sem Unit := do
  let x ← eval iter env
  standAt iter.pos
  let x ← foldedSetIterable iter env x
  let _ ← runOwn (.compStart e d (← holding [x] (pyIter x)) (.ref D) env) env

theorem WA'.emit {elt : Expr} {k : Nat} {P : Loc → List MO → Prop} (h : WE G n cx elt loc σ fun v σ₁ => ∃ ys, σ₁[k]? = some (.list ys) ∧ ys.length ≤ 1000000 ∧ P loc (σ₁.set k (.list (ys ++ [v])))) : WA' G n cx k (emitT elt) loc σ P := by
  intro A fr env L ρ D s Q hA hact hrel hD hQ
  refine wpAny_bind (h A fr env L ρ s _ hA hact hrel ?_)
  rintro ρ₁ v vv _ σ₁ h₁ t₁ S₁ R₁ rel₁ ⟨rfl, ys, hys, hl, hP⟩
  refine wpAny_bind ?_
  refine (OCall.append (G := G) (n := n) (v := v) (P := fun _ σ' => σ' = σ₁.set k (.list (ys ++ [v]))) hys hl rfl) A fr L ρ₁ loc [.builtin "list.append", .ref D, vv] _ _ hA rel₁ ⟨rfl, ⟨D, pre_get S₁.pre hD, rfl⟩, R₁, trivial⟩ ?_
  rintro ρ₂ r vr σ₂ h₂ t₂ S₂ R₂ rel₂ rfl
  exact wpAny_pure (hQ ρ₂ loc _ h₂ t₂ (S₁.trans S₂) rel₂ hP)

theorem compStart_at {prog : Program} {w : World} {A : Around} {R : Result → Shared → Prop} {s : Shared} {elt : Expr} {gens : List Comprehension} {g : Comprehension} {scope : Scope} {pos : Pos} {d : Nat} {it acc : Value} {env : Env} (hg : gens[d]? = some g) (ha : g.is_async = 0)
    (h0 : codeAny (model prog w) A (.compLoop (.ListComp elt gens scope pos) d it acc env) R s)
    (h : wpAny (model prog w) A (pyIter it) (fun it' s' => codeAny (model prog w) A (.compLoop (.ListComp elt gens scope pos) d it' acc env) R s')
      (notedBy (model prog w) A env fun x s' => R (.error x) s') s) :
    codeAny (model prog w) A (.compStart (.ListComp elt gens scope pos) d it acc env) R s := by
  refine codeAny_of_tree (wpAny_notedAt ?_)
  rw [compStart, show (clausesOf (.ListComp elt gens scope pos))[d]? = some g from hg]
  simp only [Option.elim_some, ha, bne_self_eq_false, Bool.false_eq_true, if_false]
  refine wpAny_bind (wpAny_askSetting (wpAny_ite ?_))
  split
  · exact wpAny_pure ⟨rfl, h0⟩
  · exact wpAny_bind (wpAny_rule (wpAny_bind (wpAny_standAt (wpAny_bind (wpAny_mono h (fun _ _ k => wpAny_pure ⟨rfl, k⟩) fun _ _ x => x)))))

theorem WA'.inner {elt : Expr} {g0 : Comprehension} {t iter : Expr} {ifs : List Expr} {scope : Scope} {pos : Pos} {k : Nat} {P : Loc → List MO → Prop} {tail : Addr → Env → Sem Unit} {gens : List Comprehension} {d : Nat} (hg : gens[d]? = some ⟨t, iter, ifs, 0⟩)
    (heq : ∀ it D env, compTurn (.ListComp elt gens scope pos) d it (.ref D) env = (do
      standAt iter.pos
      match ← pyNext it with
      | none => pure (.done .next)
      | some v =>
        letOwnedTupleGo t it v
        assign t env v
        let mut ok := true
        for c in ifs do
          if ok then ok ← isTrue c env (eval c env)
        if ok then tail D env
        again (.compLoop (.ListComp elt gens scope pos) d it (.ref D) env)))
    (h : WE G n cx iter loc σ fun v σ₁ => ∃ xs ok, Src G n v xs ok σ₁ ∧ ok σ₁ ∧ compChain G n cx k t ifs tail ok P xs loc σ₁)
    (hs : ∀ env x, foldedSetIterable iter env x = pure x := by intro _ _; rfl) : WA' G n cx k (innerT (.ListComp elt gens scope pos) d iter) loc σ P := by
  intro A fr env L ρ D s Q hA hact hrel hD hQ
  refine wpAny_bind (h A fr env L ρ s _ hA hact hrel ?_)
  rintro ρ₁ v vv _ σ₁ h₁ t₁ S₁ R₁ rel₁ ⟨rfl, xs, ok, src, hok, hch⟩
  refine wpAny_bind (wpAny_standAt ?_)
  rw [hs]
  refine wpAny_bind (wpAny_pure (wpAny_bind (wpAny_holding ?_)))
  refine src A fr L ρ₁ loc vv _ _ hA rel₁ R₁ ?_
  intro I it h₂ t₂ hI k₂ st₂
  have rel₂ := rel₁.ext k₂
  have off₁ : Off G fr L ρ₁ I := rel₁.off hI
  refine wpAny_bind (wpAny_runOwn (h := none) ?_ (by intro x; cases x))
  have loop : codeAny (model G.prog G.w) (A.mark none) (.compLoop (.ListComp elt gens scope pos) d (.ref I) (.ref D) env)
      (fun r s' => match r with | .ok f => wpAny (model G.prog G.w) A (pure ()) Q NoE s' | .error e => cameBackBy (model G.prog G.w) A env NoE e s') { s with heap := h₂, toks := t₂ } := by
    refine compLoop_any (A := A.mark none) heq ⟨hA.handled, hA.depth, hA.units, hA.frames⟩ (hact.mono S₁.pre) rel₂ (pre_get S₁.pre hD) it off₁ st₂ hok hI (ρb := ρ₁) (hb := h₁) (.ext k₂) hch ?_
    intro ρ' loc' σ' h' tk' S' pre' rel' hP
    exact wpAny_pure (hQ ρ' loc' σ' h' tk' (S₁.trans S') rel' hP)
  exact compStart_at hg rfl loop (noted_no (it.self st₂ loop))

theorem newEnv_comp {M : Model} {A : Around} {E : Value → Shared → Prop} {s : Shared} {scope : Scope} {globals : Addr} {cl : List (Str × Addr)} {qual : Str} {outer : Env} {Q : Env → Shared → Prop}
    (hQ : Q { scope := scope, locals := s.heap.objs.size, globals := globals, cells := cellsFrom (s.heap.objs.size + 1) scope.names cl, qual := qual, func := none, code := outer.code, frame := outer.frame, builtins := outer.builtins }
      { s with heap := pushCells (s.heap.push { cls := .type "dict", data := .dict #[] }) scope.names }) : wpAny M A (newFunctionEnv scope globals cl [] qual none .none (some outer)) Q E s := by
  simp only [newFunctionEnv, Option.isSome_some, if_true]
  refine wpAny_bind (wpAny_alloc ?_)
  refine wpAny_bind (wpAny_layCells _ (fun name kind cells => by cases hkc : kind == NameKind.cell <;> simp) _ _ _ _ ?_)
  rw [show ({ s with heap := s.heap.push { cls := .type "dict", data := .dict #[] } } : Shared).heap.objs.size = s.heap.objs.size + 1 from Heap.size_push ..]
  refine wpAny_bind ?_
  rw [List.forIn_nil]
  exact wpAny_pure (wpAny_pure hQ)

theorem outer_of {fr : List Env} {L C : Addr} {ρ ρ' : List Addr} {h₀ h' : Heap} {loc' : Loc} {σ' : List MO}
    (hrel : Rel G fr L ρ loc σ h₀) (hC : h₀.get? C = none) (S : Step fr ρ ρ' C h₀ h') (r : Rel G fr C ρ' loc' σ' h') :
    Step fr ρ ρ' L h₀ h' ∧ Rel G fr L ρ' loc σ' h' := by
  have hlt : ∀ b o, h₀.get? b = some o → b ≠ C := fun b o e q => by rw [q, hC] at e; cases e
  have keep : ∀ b o, b ∉ ρ → h₀.get? b = some o → ∃ o', h'.get? b = some o' ∧ (o' = o ∨ (b ∈ frs fr ∧ ∃ sl, o' = { o with slots := sl })) := fun b o hb e => S.keep b o hb (hlt b o e) e
  have nL : L ∉ ρ' := fun hm => by
    obtain ⟨m, ⟨oL, es, ep, eL, q⟩, hm'⟩ := hrel.ns
    have := S.fresh L hm hrel.nL
    rw [eL] at this; cases this
  refine ⟨⟨S.pre, fun b o hb _ e => keep b o hb e, S.fresh, fun _ => nL⟩, r.base, r.len, r.nodup, r.lo, nL, hrel.loL, r.objs, ?_, r.ff, r.frn⟩
  obtain ⟨m, ⟨oL, es, ep, eL, d, q⟩, hm⟩ := hrel.ns
  obtain ⟨o', e', q'⟩ := keep L oL hrel.nL eL
  have hd : o'.data = oL.data := by rcases q' with rfl | ⟨_, sl, rfl⟩ <;> rfl
  exact ⟨m, ⟨o', es, ep, e', by rw [hd]; exact d, q⟩, fun x v hx => let ⟨v', e1, e2⟩ := hm x v hx; ⟨v', e1, e2.mono S.pre⟩⟩

theorem comp_core {elt : Expr} {t iter : Expr} {ifs : List Expr} {rest : List Comprehension} {scope : Scope} {pos : Pos} {tail : Addr → Env → Sem Unit}
    (heq : ∀ it D env, compTurn (.ListComp elt (⟨t, iter, ifs, 0⟩ :: rest) scope pos) 0 it (.ref D) env = (do
      standAt iter.pos
      match ← pyNext it with
      | none => pure (.done .next)
      | some v =>
        letOwnedTupleGo t it v
        assign t env v
        let mut ok := true
        for c in ifs do
          if ok then ok ← isTrue c env (eval c env)
        if ok then tail D env
        again (.compLoop (.ListComp elt (⟨t, iter, ifs, 0⟩ :: rest) scope pos) 0 it (.ref D) env)))
    (hnd : (cellNames scope).Nodup) (hfr : (scope.names.all fun x => x.2 != .free || (cx.cells.lookup x.1).isSome) = true)
    {A : Around} {fr : List Env} {env : Env} {L : Addr} {ρ : List Addr} {x : Value} {v : MV} {s : Shared} {E : Value → Shared → Prop} {RR : Value → Addr → Result → Shared → Prop} {xs : List MV} {ok : List MO → Prop} {P : List MO → Prop}
    (hA : OkA n fr A) (hact : Act cx ρ L env) (hrel : Rel G fr L ρ loc σ s.heap) (hx : RV ρ v x) (src : Src G n v xs ok σ) (hok : ok (σ ++ [.list []] ++ (cellNames scope).map fun _ => .cell none))
    (hch : compChain G n (compCx scope cx (σ.length + 1)) σ.length t ifs tail ok (fun _ σ' => P σ') xs [] (σ ++ [.list []] ++ (cellNames scope).map fun _ => .cell none))
    (hE : ∀ y s', NoE y s' → E y s')
    (hRR : ∀ D C ρ' σ' h' tk', Step fr ρ ρ' L s.heap h' → Rel G fr L ρ' loc σ' h' → Off G fr L ρ' C → s.heap.get? C = none → (∃ m, h'.Ns C m) → ρ'[σ.length]? = some D → P σ' → RR (.ref D) C (.ok .next) { s with heap := h', toks := tk' }) :
    wpAny (model G.prog G.w) A (pyIter x) (fun it s₂ => wpAny (model G.prog G.w) A (newList []) (fun acc s₃ =>
      wpAny (model G.prog G.w) A (newFunctionEnv scope env.globals (freeAddr env.cells scope.names []) [] env.qual none .none (some env)) (fun cenv s₄ =>
        codeAny (model G.prog G.w) A (.compStart (.ListComp elt (⟨t, iter, ifs, 0⟩ :: rest) scope pos) 0 it acc { cenv with scope := relabel scope env }) (RR acc cenv.locals) s₄) E s₃) E s₂) E s := by
  refine wpAny_mono (src A fr L ρ loc x s _ hA hrel hx ?_) (fun _ _ q => q) hE
  intro I it h₁ t₁ hI k₁ st₁
  have rel₁ := hrel.ext k₁
  have off₁ : Off G fr L ρ I := hrel.off hI
  refine wpAny_newObj_type ?_ (by show ([] : List Value).toArray.size ≤ sizeLine; rw [sizeLine_eq]; exact Nat.zero_le _)
  have rel₂ := rel₁.push (mo := .list []) (o := { cls := .type "list", dict := none, data := .seq ([] : List Value).toArray }) ⟨[], 0, rfl, trivial⟩ rfl
  have S₂ := rel₁.pushStep { cls := .type "list", dict := none, data := .seq ([] : List Value).toArray }
  obtain ⟨oI, eI⟩ := it.live st₁
  have off₂ : Off G fr L (ρ ++ [h₁.objs.size]) I := off₁.step S₂ eI
  have k₂ : ∀ b o, h₁.get? b = some o → (h₁.push { cls := .type "list", dict := none, data := .seq ([] : List Value).toArray }).get? b = some o := fun b o e => Heap.get?_push_of_some _ e
  generalize hH : h₁.push { cls := .type "list", dict := none, data := .seq ([] : List Value).toArray } = H at rel₂ S₂ k₂
  refine newEnv_comp ?_
  obtain ⟨rel₃, k₃, above⟩ := rel₂.inner (scope := scope) hnd
  have hlen : (ρ ++ [h₁.objs.size]).length = σ.length + 1 := by simp [hrel.len]
  have ρpre : ρ ++ [h₁.objs.size] <+: ρ ++ [h₁.objs.size] ++ (cellsFrom (H.objs.size + 1) scope.names []).map (·.2) := List.prefix_append _ _
  have hnames : (cellsFrom (H.objs.size + 1) scope.names []).map (·.1) = cellNames scope := cellsFrom_names _ _ _ _ _ rfl
  have hact₃ : Act (compCx scope cx (σ.length + 1)) (ρ ++ [h₁.objs.size] ++ (cellsFrom (H.objs.size + 1) scope.names []).map (·.2)) H.objs.size
      { scope := relabel scope env, locals := H.objs.size, globals := env.globals, cells := cellsFrom (H.objs.size + 1) scope.names (freeAddr env.cells scope.names []), qual := env.qual, func := none, code := env.code, frame := env.frame, builtins := env.builtins } := by
    refine ⟨rfl, hact.glob, hact.blt, relabelM_eq hact scope, fun y j hy => ?_⟩
    dsimp only [compCx] at hy ⊢
    rw [cellsFrom_acc scope.names (H.objs.size + 1) (freeAddr env.cells scope.names []), lookup_append]
    rw [lookup_append] at hy
    cases e : (idx (cellNames scope) (σ.length + 1)).lookup y with
    | some j' =>
      rw [e] at hy
      cases hy
      rw [← hnames] at e
      obtain ⟨a, h1, h2, h3⟩ := idx_lookup e
      refine ⟨a, ?_, by rw [h3]; rfl⟩
      rw [List.getElem?_append_right (by rw [hlen]; exact h1), hlen]
      exact h2
    | none =>
      rw [e] at hy
      rw [← hnames] at e
      rw [idx_none e]
      obtain ⟨a, h1, h2⟩ := free_lookup hact.cells scope.names [] [] hfr (fun _ _ h => by cases h) y j hy
      exact ⟨a, pre_get ((List.prefix_append _ _).trans ρpre) h1, h2⟩
  have st₃ := it.keep st₁ ((List.prefix_append ρ [h₁.objs.size]).trans ρpre) fun o e => k₃ _ _ (k₂ _ _ e)
  have eI₃ := k₃ _ _ (k₂ _ _ eI)
  have off₃ : Off G fr H.objs.size (ρ ++ [h₁.objs.size] ++ (cellsFrom (H.objs.size + 1) scope.names []).map (·.2)) I := by
    refine ⟨off₂.base, fun hm => ?_, fun e => ?_, off₂.frm⟩
    · rcases List.mem_append.mp hm with h | h
      · exact off₂.tab h
      · exact absurd (Nat.lt_trans (Heap.lt_size (k₂ _ _ eI)) (above I h)) (Nat.lt_irrefl _)
    · exact absurd (Heap.lt_size (k₂ _ _ eI)) (by rw [e]; exact Nat.lt_irrefl _)
  have hD : (ρ ++ [h₁.objs.size] ++ (cellsFrom (H.objs.size + 1) scope.names []).map (·.2))[σ.length]? = some h₁.objs.size := pre_get ρpre (get_last hrel.len)
  have S₃ : Step fr ρ (ρ ++ [h₁.objs.size] ++ (cellsFrom (H.objs.size + 1) scope.names []).map (·.2)) H.objs.size s.heap (pushCells (H.push { cls := .type "dict", data := .dict #[] }) scope.names) := by
    have lt1 : ∀ b o, s.heap.get? b = some o → b < h₁.objs.size := fun b o e => Heap.lt_size (k₁ b o e)
    have hsz : H.objs.size = h₁.objs.size + 1 := by rw [← hH, Heap.size_push]
    refine ⟨(List.prefix_append ρ [h₁.objs.size]).trans ρpre, fun b o _ _ e => ⟨o, k₃ _ _ (k₂ _ _ (k₁ _ _ e)), .inl rfl⟩, fun a ha hn => ?_, fun _ hm => ?_⟩
    · cases e : s.heap.get? a with
      | none => rfl
      | some o =>
        exfalso
        have := lt1 a o e
        rcases List.mem_append.mp ha with h | h
        · rcases List.mem_append.mp h with h | h
          · exact hn h
          · rw [List.mem_singleton.mp h] at this; exact Nat.lt_irrefl _ this
        · exact absurd (Nat.lt_trans (Nat.lt_trans this (by rw [hsz]; exact Nat.lt_succ_self _)) (above a h)) (Nat.lt_irrefl _)
    · exact rel₃.nL hm
  have loop : ∀ s', s' = { s with heap := pushCells (H.push { cls := .type "dict", data := .dict #[] }) scope.names, toks := t₁ } → codeAny (model G.prog G.w) A (.compLoop (.ListComp elt (⟨t, iter, ifs, 0⟩ :: rest) scope pos) 0 (.ref I) (.ref h₁.objs.size)
      { scope := relabel scope env, locals := H.objs.size, globals := env.globals, cells := cellsFrom (H.objs.size + 1) scope.names (freeAddr env.cells scope.names []), qual := env.qual, func := none, code := env.code, frame := env.frame, builtins := env.builtins })
      (RR (.ref h₁.objs.size) H.objs.size) s' := by
    rintro s' rfl
    refine compLoop_any heq hA hact₃ rel₃ hD it off₃ st₃ hok hI S₃ hch ?_
    intro ρ' loc' σ' h' tk' S' pre' r' hP
    have hfresh : ∀ a ∈ ρ ++ [h₁.objs.size] ++ (cellsFrom (H.objs.size + 1) scope.names []).map (·.2), a ∉ ρ → h₁.objs.size ≤ a := fun a ha hn => by
      have hsz : H.objs.size = h₁.objs.size + 1 := by rw [← hH, Heap.size_push]
      rcases List.mem_append.mp ha with h | h
      · rcases List.mem_append.mp h with h | h
        · exact absurd h hn
        · rw [List.mem_singleton.mp h]; exact Nat.le_refl _
      · exact Nat.le_of_lt (Nat.lt_trans (by rw [hsz]; exact Nat.lt_succ_self _) (above a h))
    have hCn : s.heap.get? H.objs.size = none := by
      cases e : s.heap.get? H.objs.size with
      | none => rfl
      | some o => exact absurd (Heap.lt_size (k₂ _ _ (k₁ _ _ e))) (Nat.lt_irrefl _)
    have hout : Step fr ρ ρ' L s.heap h' ∧ Rel G fr L ρ' loc σ' h' := by
      refine outer_of hrel hCn S' r'
    obtain ⟨So, ro⟩ := hout
    refine hRR _ _ ρ' σ' h' tk' So ro ?_ hCn (let ⟨m, hm, _⟩ := r'.ns; ⟨m, hm⟩) (pre_get pre' hD) hP
    exact ⟨r'.loL, r'.nL, fun e => absurd hCn (by rw [e]; obtain ⟨m, ⟨oL, es, ep, eL, _⟩, _⟩ := hrel.ns; rw [eL]; simp), fun hm => absurd (ff_lt rel₂.ff hm) (Nat.lt_irrefl _)⟩
  exact codeAny_compStart_list (loop _ rfl) (noted_no (it.self st₃ (loop _ rfl)))
end
end Mine

namespace Mine

section
variable {G : Gl} {n : Nat} {cx : Cx} {loc : Loc} {σ : List MO} {P : MV → List MO → Prop}

theorem Act.closure {cx : Cx} {ρ : List Addr} {L : Addr} {env : Env} (a : Act cx ρ L env) {scope : Scope} (hfr : (scope.names.all fun x => x.2 != .free || (cx.cells.lookup x.1).isSome) = true) : closureFor scope env = pure (freeAddr env.cells scope.names []) := by
  refine closure_pure (List.all_eq_true.mpr fun x hx => ?_)
  have := List.all_eq_true.mp hfr x hx
  rcases Bool.or_eq_true_iff.mp this with h | h
  · rw [h]; rfl
  · obtain ⟨k, hk⟩ := Option.isSome_iff_exists.mp h
    obtain ⟨b, _, hb⟩ := a.cells _ _ hk
    rw [hb]; simp

noncomputable def TurnEq (elt : Expr) (t iter : Expr) (ifs : List Expr) (gens : List Comprehension) (scope : Scope) (pos : Pos) (d : Nat) (tail : Addr → Env → Sem Unit) : Prop :=
  ∀ it D env, compTurn (.ListComp elt gens scope pos) d it (.ref D) env = (do
      standAt iter.pos
      match ← pyNext it with
      | none => pure (.done .next)
      | some v =>
        letOwnedTupleGo t it v
        assign t env v
        let mut ok := true
        for c in ifs do
          if ok then ok ← isTrue c env (eval c env)
        if ok then tail D env
        again (.compLoop (.ListComp elt gens scope pos) d it (.ref D) env))

noncomputable def CompFrom (G : Gl) (n : Nat) (cx : Cx) (scope : Scope) (t : Expr) (ifs : List Expr) (tail : Addr → Env → Sem Unit) (P : Nat → List MO → Prop) (v : MV) (σ : List MO) : Prop :=
  ∃ xs ok, Src G n v xs ok σ ∧ ok (σ ++ [.list []] ++ (cellNames scope).map fun _ => .cell none) ∧
    compChain G n (compCx scope cx (σ.length + 1)) σ.length t ifs tail ok (fun _ σ' => P σ.length σ') xs [] (σ ++ [.list []] ++ (cellNames scope).map fun _ => .cell none)

structure CompOk (scope : Scope) (cx : Cx) : Prop where
  nd : (cellNames scope).Nodup
  fr : (scope.names.all fun x => x.2 != .free || (cx.cells.lookup x.1).isSome) = true
  kind : scope.kind = .function
  names : (scope.names.all fun x => x.2 != .local || scope.names.lookup x.1 == some .local) = true

theorem CompOk.names' {scope : Scope} {cx : Cx} (h : CompOk scope cx) : ∀ x ∈ scope.names, x.2 = .local → scope.names.lookup x.1 = some .local := fun x hx hl => by
  have := List.all_eq_true.mp h.names x hx
  rw [hl] at this
  simpa using this

theorem WE.comp {elt t iter : Expr} {ifs : List Expr} {rest : List Comprehension} {scope : Scope} {pos : Pos} {tail : Addr → Env → Sem Unit}
    (heq : TurnEq elt t iter ifs (⟨t, iter, ifs, 0⟩ :: rest) scope pos 0 tail) (hok : CompOk scope cx)
    (h : WE G n cx iter loc σ (CompFrom G n cx scope t ifs tail fun k σ' => P (.obj k) σ'))
    (hs : ∀ env x, foldedSetIterable iter env x = pure x := by intro _ _; rfl) : WE G n cx (.ListComp elt (⟨t, iter, ifs, 0⟩ :: rest) scope pos) loc σ P := by
  intro A fr env L ρ s Q hA hact hrel hQ
  rw [eval_ListComp]
  refine wpAny_comprehension_free (use := none) rfl (hs env) (hact.closure hok.fr) hok.kind hok.names' (h A fr env L ρ s _ hA hact hrel ?_)
  rintro ρ₁ v vv _ σ₁ h₁ t₁ S₁ R₁ rel₁ ⟨rfl, xs, ok, src, hk, hch⟩
  refine comp_core (RR := fun acc C => compPost (model G.prog G.w) A NoE none Q acc C) heq hok.nd hok.fr hA (hact.mono S₁.pre) rel₁ R₁ src hk hch (fun _ _ e => e) ?_
  intro D C ρ' σ' h' tk' S' rel' off hC hns hD hP
  obtain ⟨m, hm⟩ := hns
  refine ⟨m, hm, fun h'' hs'' => ?_⟩
  have kb : ∀ b o, b ≠ C → h'.get? b = some o → h''.get? b = some o := fun b o hb e => hs''.extBut b o hb e
  exact hQ ρ' (.obj σ₁.length) _ _ σ' h'' tk' (S₁.trans (S'.but hC kb)) ⟨D, hD, rfl⟩ (rel'.but off kb) ⟨rfl, hP⟩

theorem WS_assignComp {x : Str} {p spos : Pos} {elt t iter : Expr} {ifs : List Expr} {rest : List Comprehension} {scope : Scope} {pos : Pos} {tail : Addr → Env → Sem Unit} {P : MF → Loc → List MO → Prop}
    (heq : TurnEq elt t iter ifs (⟨t, iter, ifs, 0⟩ :: rest) scope pos 0 tail) (hok : CompOk scope cx)
    (h : WE G n cx iter loc σ (CompFrom G n cx scope t ifs tail fun k σ' => WN G n cx x (.obj k) loc σ' fun l σ'' => P .next l σ''))
    (hs : ∀ env x, foldedSetIterable iter env x = pure x := by intro _ _; rfl)
    (hsw : (cx.scope.names.lookup x == some .local && p.line == pos.line && !(scope.names.any fun (n, k) => n == x && (k == .local || k == .cell))) = true) (hk : cx.scope.kind = .function) :
    WS G n cx (.Assign [.Name x p] (.ListComp elt (⟨t, iter, ifs, 0⟩ :: rest) scope pos) spos) loc σ P := by
  intro A fr env L ρ s Q hA hact hrel hQ
  have hsw' : swapsWith (.ListComp elt (⟨t, iter, ifs, 0⟩ :: rest) scope pos) (some (.Name x p)) spos.line env = pure true := by
    show (pure (env.blockKind == .function && env.kindOf x == some .local && p.line == pos.line && !(scope.names.any fun (n, k) => n == x && (k == .local || k == .cell))) : Sem Bool) = pure true
    have : env.blockKind = .function := by
      unfold Env.blockKind
      rw [hact.kind hk]; rfl
    rw [this, hact.kindOf rfl]
    rw [Bool.and_eq_true, Bool.and_eq_true] at hsw
    rw [hsw.1.1, hsw.1.2, hsw.2]
    rfl
  rw [exec_Assign_Name_used _ _ _ _ hsw']
  refine wpAny_bind (wpAny_standAt (wpAny_bind ?_))
  show wpAny _ A (do let _ ← comprehension (.ListComp elt (⟨t, iter, ifs, 0⟩ :: rest) scope pos) scope env _ (newList []) false (eval iter env) (some (PySem.assign (.Name x p) env))) _ _ s
  refine wpAny_bind (wpAny_mono (wpAny_comprehension_free (use := some (PySem.assign (.Name x p) env)) (Q := fun _ s' => Q .next s') rfl (hs env) (hact.closure hok.fr) hok.kind hok.names' (h A fr env L ρ s _ hA hact hrel ?_)) (fun _ s' hq => wpAny_pure (wpAny_pure hq)) fun _ _ e => e)
  rintro ρ₁ v vv _ σ₁ h₁ t₁ S₁ R₁ rel₁ ⟨rfl, xs, ok, src, hk, hch⟩
  refine comp_core (RR := fun acc C => compPost (model G.prog G.w) A NoE (some (PySem.assign (.Name x p) env)) (fun _ s' => Q .next s') acc C) heq hok.nd hok.fr hA (hact.mono S₁.pre) rel₁ R₁ src hk hch (fun _ _ e => e) ?_
  intro D C ρ' σ' h' tk' S' rel' off hC hns hD hP
  obtain ⟨m, hm⟩ := hns
  have Sa := S₁.trans S'
  show wpAny _ A (PySem.assign (.Name x p) env (.ref D)) _ _ _
  refine wpAny_assign_Name (hP A fr env L ρ' (.ref D) _ _ hA (hact.mono Sa.pre) rel' ⟨D, hD, rfl⟩ ?_)
  intro loc₂ σ₂ h₂ t₂ S₂ rel₂ hP₂
  have off₂ : Off G fr L ρ' C := off
  obtain ⟨o, es, ep, e, q⟩ := hm
  have eC := off.kept S₂ e
  refine ⟨m, ⟨o, es, ep, eC, q⟩, fun h'' hs'' => ?_⟩
  have kb : ∀ b o, b ≠ C → h₂.get? b = some o → h''.get? b = some o := fun b o hb e => hs''.extBut b o hb e
  exact hQ ρ' .next _ loc₂ σ₂ h'' t₂ (S₁.trans ((S'.trans S₂).but hC kb)) rfl (rel₂.but off₂ kb) hP₂

theorem WTs.mono {ifs : List Expr} {P P' : Bool → List MO → Prop} (hp : ∀ b σ, P b σ → P' b σ) (h : WTs G n cx ifs loc σ P) : WTs G n cx ifs loc σ P' := by
  match ifs, h with
  | [], h => exact hp _ _ h
  | [c], h => exact WB.mono h hp
theorem compChain_map {k : Nat} {t : Expr} {ifs : List Expr} {elt : Expr} {ok : List MO → Prop} {P : Loc → List MO → Prop} {xs : List MV} (hk : k < σ.length) (J : Nat → List MV → List MO → Prop)
    (turn : ∀ i x ys loc σ, xs[i]? = some x → ok σ → σ[k]? = some (.list ys) → J i ys σ → WA G n cx t x loc σ fun loc₁ σ₁ => WTs G n cx ifs loc₁ σ₁ fun b σ₂ =>
      (b = true → WE G n cx elt loc₁ σ₂ fun v σ₃ => σ₃[k]? = some (.list ys) ∧ ys.length ≤ 1000000 ∧ ok (σ₃.set k (.list (ys ++ [v]))) ∧ J (i + 1) (ys ++ [v]) (σ₃.set k (.list (ys ++ [v])))) ∧
      (b = false → σ₂[k]? = some (.list ys) ∧ ok σ₂ ∧ J (i + 1) ys σ₂))
    (fin : ∀ loc ys σ, ok σ → σ[k]? = some (.list ys) → J xs.length ys σ → P loc σ) {ys : List MV} (h0 : J 0 ys σ) (hys : σ[k]? = some (.list ys)) (hok : ok σ) : compChain G n cx k t ifs (emitT elt) ok P xs loc σ := by
  have key : ∀ (j i : Nat) (ys : List MV) (loc : Loc) (σ : List MO), j = xs.length - i → i ≤ xs.length → ok σ → σ[k]? = some (.list ys) → J i ys σ → compChain G n cx k t ifs (emitT elt) ok P (xs.drop i) loc σ := by
    intro j
    induction j with
    | zero =>
      intro i ys loc σ hj hi ho hys hJ
      have : i = xs.length := by lia
      subst this
      rw [List.drop_length]
      exact fin loc ys σ ho hys hJ
    | succ j ih =>
      intro i ys loc σ hj hi ho hys hJ
      have hlt : i < xs.length := by lia
      rw [List.drop_eq_getElem_cons hlt]
      intro A fr env L ρ u s Q hA hact hrel hu hQ
      refine turn i xs[i] ys loc σ (List.getElem?_eq_getElem hlt) ho hys hJ A fr env L ρ u s Q hA hact hrel hu ?_
      intro ρ' loc' σ' h' tk' S r p
      refine hQ ρ' loc' σ' h' tk' S r ?_
      refine WTs.mono (fun b σ₂ hb => ⟨fun e => ?_, fun e => ?_⟩) p
      · refine WA'.emit (WE.mono (hb.1 e) ?_)
        rintro v σ₃ ⟨h1, h2, h3, h4⟩
        refine ⟨ys, h1, h2, h3, ih (i + 1) (ys ++ [v]) loc' _ (by lia) (by lia) h3 ?_ h4⟩
        have : k < σ₃.length := (List.getElem?_eq_some_iff.mp h1).1
        rw [List.getElem?_set_self this]
      · obtain ⟨h1, h2, h3⟩ := hb.2 e
        exact ⟨h2, ih (i + 1) ys loc' _ (by lia) (by lia) h2 h1 h3⟩
  exact key xs.length 0 ys loc σ (by lia) (Nat.zero_le _) hok hys h0
end
end Mine

namespace Mine

noncomputable def S (l : List Nat) : Str := ⟨l.toArray⟩
theorem S_len (l : List Nat) : (S l).length = l.length := by show l.toArray.size = _; simp
theorem S_add (l m : List Nat) : S l ++ S m = S (l ++ m) := by
  show (⟨l.toArray ++ m.toArray⟩ : Str) = ⟨(l ++ m).toArray⟩
  simp
theorem S_inj {l m : List Nat} : S l = S m ↔ l = m := by simp [S]

section
variable {G : Gl} {n : Nat} {cx : Cx} {loc : Loc} {σ : List MO} {P : MV → List MO → Prop} {PB : Bool → List MO → Prop}

theorem O.strs {α β : Type} {RR : List Addr → β → α → Prop} {x y : Str} {t : List Value → Sem α} {P : β → List MO → Prop} (b : β)
    (h : ∀ (A : Around) ρ tx ty (s : Shared) (Q : α → Shared → Prop), (∀ a tk', RR ρ b a → Q a { s with toks := tk' }) → wpAny (model G.prog G.w) A (t [.str x tx, .str y ty]) Q NoE s) (hP : P b σ) : O G n RR [.str x, .str y] t σ P :=
  .now2 b (fun A _ ρ u v s Q _ hu hv hq => by obtain ⟨tu, rfl⟩ := hu; obtain ⟨tv, rfl⟩ := hv; exact h A ρ tu tv s Q hq) hP

theorem bool_of_beq (l m : List Nat) : (l == m) = decide (l = m) := by
  by_cases h : l = m <;> simp [h]
theorem OC.eqS {l m : List Nat} (h : P (.bool (decide (l = m))) σ) : OCmp G n .Eq (.str (S l)) (.str (S m)) σ P :=
  .strs (.bool (decide (l = m))) (fun _ _ _ _ _ _ q => PySem.P.eq_str (by
    have := q (.bool (decide (l = m)))
    show _
    simp only [S] 
    rw [bool_of_beq]; exact q _ _ rfl)) h
theorem OC.neS {l m : List Nat} (h : P (.bool (decide (l ≠ m))) σ) : OCmp G n .NotEq (.str (S l)) (.str (S m)) σ P :=
  .strs (.bool (decide (l ≠ m))) (fun _ _ _ _ _ _ q => PySem.P.ne_str (by
    simp only [S, bne]
    rw [bool_of_beq, ← decide_not]; exact q _ _ rfl)) h
theorem OC.notInS {x y : Str} (h : P (.bool (Builtin.Str.occurrences x y 0 x.length 1).isEmpty) σ) : OCmp G n .NotIn (.str y) (.str x) σ P :=
  .strs (.bool (Builtin.Str.occurrences x y 0 x.length 1).isEmpty) (fun _ _ _ _ _ _ q => PySem.P.notIn_str (by rw [Bool.not_not]; exact q _ _ rfl)) h
theorem OB.addS {l m : List Nat} (hl : l.length + m.length ≤ 1000000) (h : P (.str (S (l ++ m))) σ) : OBin G n .Add (.str (S l)) (.str (S m)) σ P :=
  .strs (.str (S (l ++ m))) (fun _ _ _ _ _ _ q => PySem.P.add_str (by
    rw [S_len, S_len]
    by_cases h1 : l.length = 0
    · rw [List.length_eq_zero_iff] at h1; subst h1
      exact q _ _ ⟨_, rfl⟩
    · rw [if_neg (by simpa using h1)]
      by_cases h2 : m.length = 0
      · rw [List.length_eq_zero_iff] at h2; subst h2
        rw [List.append_nil] at q
        exact q _ _ ⟨_, rfl⟩
      · rw [if_neg (by simpa using h2), S_add]
        exact ⟨by rw [S_len, List.length_append, sizeLine_eq]; lia, q _ _ ⟨_, rfl⟩⟩)) h
theorem foldl_rep (l : List Nat) : ∀ (k : Nat) (acc : List Nat), List.foldl (fun (x1 x2 : Array Nat) => x1 ++ x2) acc.toArray (List.replicate k l.toArray) = (acc ++ (List.replicate k l).flatten).toArray
  | 0, acc => by simp
  | k + 1, acc => by
    rw [List.replicate_succ, List.foldl_cons, List.replicate_succ, List.flatten_cons]
    have := foldl_rep l k (acc ++ l)
    rw [List.append_assoc] at this
    rw [← this]; simp
theorem Txt_mul (l : List Nat) (k : Int) : Txt.mul (S l) k = S (List.replicate k.toNat l).flatten := by
  unfold Txt.mul
  by_cases h1 : k < 1
  · rw [if_pos h1]
    have : k.toNat = 0 := by lia
    rw [this]; rfl
  · rw [if_neg h1]
    by_cases h2 : (k == 1 || (S l).length == 0) = true
    · rw [if_pos h2]
      rcases Bool.or_eq_true_iff.mp h2 with h | h
      · have : k = 1 := by simpa using h
        subst this
        simp
      · rw [S_len] at h
        have : l = [] := by simpa using h
        subst this
        simp
    · rw [if_neg h2]
      have := foldl_rep l k.toNat []
      simp only [S]
      rw [List.nil_append] at this
      rw [← this]
theorem OB.mulS {l : List Nat} {k : Int} (h0 : -1000000 ≤ k) (h1 : k ≤ 1000000) (hl : l.length * k.toNat ≤ 1000000) (h : P (.str (S (List.replicate k.toNat l).flatten)) σ) : OBin G n .Mult (.str (S l)) (.int k) σ P :=
  .now2 (.str (S (List.replicate k.toNat l).flatten)) (fun A _ ρ u v s Q _ hu hv q => by
    obtain ⟨tu, rfl⟩ := hu; obtain ⟨tv, rfl⟩ := hv
    refine SB.mul ⟨?_, fun hk hn => ?_, fun hk hn => ?_⟩ fun t' k' => by rw [Txt_mul]; exact q _ _ ⟨_, rfl⟩
    · rw [Bool.or_eq_false_iff]; constructor <;> simp <;> lia
    · rw [S_len]
      have h2 : (l.length : Int) * k ≤ 2 ^ 63 - 1 := by
        have : ((l.length * k.toNat : Nat) : Int) = (l.length : Int) * k := by rw [Int.natCast_mul, Int.toNat_of_nonneg (by lia)]
        lia
      have : (l.length : Int) ≤ (2 ^ 63 - 1) / k := by
        rw [Int.le_ediv_iff_mul_le (by lia)]; exact h2
      lia
    · rw [S_len]
      show decide _ = false
      simp only [sizeLine]
      exact decide_eq_false (by lia)) h
theorem OT.str {l : List Nat} (hl : l.length ≤ 1000000) (h : PB (!l.isEmpty) σ) : OTru G n (.str (S l)) σ PB :=
  .now1 (!l.isEmpty) (fun _ _ _ u s Q _ hu q => by
    obtain ⟨t, rfl⟩ := hu
    refine PySem.P.truthy_str (by rw [S_len]; lia) (q _ _ ?_)
    rw [S_len]
    cases l <;> simp [RB, bne] <;> lia) h

theorem OCall.lenS {l : List Nat} (hl : l.length ≤ 1000000) (h : P (.int l.length) σ) : OCall G n (.top (.builtin "len")) [.str (S l)] σ P :=
  .now2 (.int l.length) (fun _ _ _ u v s Q _ hu hv q => by
    cases hu; obtain ⟨t, rfl⟩ := hv
    refine PySem.P.len_str (by rw [S_len]; lia) ?_
    rw [S_len]; exact q _ _ ⟨_, rfl⟩) h
theorem OCall.lenL {k : Nat} {xs : List MV} (hk : σ[k]? = some (.list xs)) (hl : xs.length ≤ 1000000) (h : P (.int xs.length) σ) : OCall G n (.top (.builtin "len")) [.obj k] σ P := by
  intro A fr L ρ loc us s Q hA hrel hus hQ
  obtain ⟨f, u, rfl, hf, hu⟩ := two hus
  cases hf
  obtain ⟨a, vs, m, rfl, ea, ha, hvs⟩ := hrel.atList hu hk
  refine PyProof.Rows.len_list (items := vs.toArray) ⟨_, ha, rfl, m, rfl⟩ (by rw [List.size_toArray, hvs.length]; lia) ?_
  rw [List.size_toArray, hvs.length]
  exact hQ ρ (.int xs.length) _ σ s.heap _ .refl ⟨_, rfl⟩ hrel h

theorem OCall.range1 {b : Int} (h : P (.obj σ.length) (σ ++ [.rng 0 b])) : OCall G n (.top (.type "range")) [.int b] σ P := by
  intro A fr L ρ loc us s Q hA hrel hus hQ
  obtain ⟨f, u, rfl, hf, t, rfl⟩ := two hus
  cases hf
  refine call_range_1 ?_
  exact hQ (ρ ++ [s.heap.objs.size]) (.obj σ.length) _ _ _ _ (hrel.pushStep _) ⟨_, get_last hrel.len, rfl⟩ (hrel.push (mo := .rng 0 b) ⟨_, _, _, rfl⟩ rfl) h
theorem OCall.range2 {a b : Int} (h : P (.obj σ.length) (σ ++ [.rng a b])) : OCall G n (.top (.type "range")) [.int a, .int b] σ P := by
  intro A fr L ρ loc us s Q hA hrel hus hQ
  obtain ⟨f, u, v, rfl, hf, ⟨t, rfl⟩, ⟨t', rfl⟩⟩ := three hus
  cases hf
  refine call_range_2 ?_
  exact hQ (ρ ++ [s.heap.objs.size]) (.obj σ.length) _ _ _ _ (hrel.pushStep _) ⟨_, get_last hrel.len, rfl⟩ (hrel.push (mo := .rng a b) ⟨_, _, _, rfl⟩ rfl) h
theorem OCall.chr {i : Int} (h0 : 0 ≤ i) (h1 : i ≤ 1000) (h : P (.str (S [i.toNat])) σ) : OCall G n (.top (.builtin "chr")) [.int i] σ P :=
  .now2 (.str (S [i.toNat])) (fun _ _ _ u v s Q _ hu hv q => by
    cases hu; obtain ⟨t, rfl⟩ := hv
    exact chr_of_range h0 (by lia) (q _ _ ⟨_, rfl⟩)) h
theorem OCall.ord {i : Nat} (h : P (.int i) σ) : OCall G n (.top (.builtin "ord")) [.str (S [i])] σ P :=
  .now2 (.int i) (fun _ _ _ u v s Q _ hu hv q => by
    cases hu; obtain ⟨t, rfl⟩ := hv
    exact ord_of_one rfl (q _ _ ⟨_, rfl⟩)) h
theorem OCall.min2 {a b : Int} (h : P (.int (if b < a then b else a)) σ) : OCall G n (.top (.builtin "min")) [.int a, .int b] σ P := by
  intro A fr L ρ loc us s Q hA hrel hus hQ
  obtain ⟨f, u, v, rfl, hf, ⟨t, rfl⟩, ⟨t', rfl⟩⟩ := three hus
  cases hf
  refine min_two_ints hA.handled fun h' tk hk => ?_
  have := hQ ρ (.int (if b < a then b else a)) (if b < a then Value.int b t' else Value.int a t) σ h' tk (.ext hk) (by split <;> exact ⟨_, rfl⟩) (hrel.ext hk) h
  exact this

noncomputable def SubT (value slice : Expr) (us : List Value) : Sem Value := match us with | [o, i] => subscriptTail value slice o i | _ => unsupported ""
theorem WE.sub {value slice : Expr} {pos : Pos} (h : WE G n cx value loc σ fun a σ₁ => WE G n cx slice loc σ₁ fun b σ₂ => O G n RV [a, b] (SubT value slice) σ₂ P) : WE G n cx (.Subscript value slice pos) loc σ P := by
  intro A fr env L ρ s Q hA hact hrel hQ
  refine Subscript_ (h A fr env L ρ s _ hA hact hrel ?_)
  rintro ρ₁ a va _ σ₁ h₁ t₁ S₁ R₁ rel₁ ⟨rfl, hP₁⟩
  refine hP₁ A fr env L ρ₁ _ _ hA (hact.mono S₁.pre) rel₁ ?_
  rintro ρ₂ b vb _ σ₂ h₂ t₂ S₂ R₂ rel₂ ⟨rfl, hP₂⟩
  refine hP₂ A fr L ρ₂ _ [va, vb] _ _ hA rel₂ ⟨R₁.mono S₂.pre, R₂, trivial⟩ ?_
  rintro ρ₃ v vv σ₃ h₃ t₃ S₃ R₃ rel₃ hP₃
  exact hQ ρ₃ v vv _ σ₃ h₃ t₃ (S₁.trans (S₂.trans S₃)) R₃ rel₃ ⟨rfl, hP₃⟩

noncomputable def ixOf (i : Int) (n : Nat) : Nat := if 0 ≤ i then i.toNat else (i + n).toNat

theorem OS.list {value slice : Expr} {k : Nat} {i : Int} {xs : List MV} {v : MV} (hk : σ[k]? = some (.list xs)) (hlo : -(xs.length : Int) ≤ i) (hhi : i < xs.length) (hl : xs.length ≤ 1000000) (hv : xs[ixOf i xs.length]? = some v) (h : P v σ)
    (hs : ∀ o i, ∃ ops, subscripted slice false o i = operate ops (getItem o i) := by intro _ _; exact ⟨_, rfl⟩) : O G n RV [.obj k, .int i] (SubT value slice) σ P := by
  intro A fr L ρ loc us s Q hA hrel hus hQ
  obtain ⟨u, w, rfl, hu, t, rfl⟩ := two hus
  obtain ⟨a, vs, m, rfl, ea, ha, hvs⟩ := hrel.atList hu hk
  obtain ⟨x, hx, r⟩ := hvs.get hv
  obtain ⟨ops, hops⟩ := hs (.ref a) (.int i t)
  have isl : s.heap.IsList a vs.toArray := ⟨_, ha, rfl, m, rfl⟩
  refine tail_any isl.typeIs slot_list_getitem.lookup ?_ hops
  have fin := hQ ρ v x σ s.heap s.toks .refl r hrel h
  unfold ixOf at hx
  by_cases h0 : 0 ≤ i
  · rw [if_pos h0] at hx
    exact wpAny_getItem_list isl h0 (by lia) (by simpa using hx) fin
  · rw [if_neg h0] at hx
    exact wpAny_getItem_list_neg isl (by lia) (by rw [List.size_toArray, hvs.length]; exact hlo) (by lia) (by rw [List.size_toArray, hvs.length]; simpa using hx) fin
theorem OS.tup {value slice : Expr} {k : Nat} {i : Int} {xs : List MV} {v : MV} (hk : σ[k]? = some (.tup xs)) (hlo : 0 ≤ i) (hhi : i < xs.length) (hl : xs.length ≤ 1000000) (hv : xs[i.toNat]? = some v) (h : P v σ)
    (hs : ∀ o i, ∃ ops, subscripted slice false o i = operate ops (getItem o i) := by intro _ _; exact ⟨_, rfl⟩) : O G n RV [.obj k, .int i] (SubT value slice) σ P := by
  intro A fr L ρ loc us s Q hA hrel hus hQ
  obtain ⟨u, w, rfl, hu, t, rfl⟩ := two hus
  obtain ⟨a, vs, m, rfl, ea, ha, hvs⟩ := hrel.atTup hu hk
  obtain ⟨x, hx, r⟩ := hvs.get hv
  obtain ⟨ops, hops⟩ := hs (.ref a) (.int i t)
  have isl : IsTup s.heap a vs.toArray := ⟨_, ha, rfl, m, rfl⟩
  refine tail_any isl.typeIs slot_tuple_getitem.lookup ?_ hops
  refine PyProof.Rows.getItem_tuple (j := i.toNat) isl (by lia) (by lia) ?_ (by simpa using hx) (hQ ρ v x σ s.heap s.toks .refl r hrel h)
  rw [List.size_toArray, hvs.length]
  unfold seqIndex?
  have e1 : ¬ i < 0 := by lia
  simp [e1]
  lia
end
end Mine

namespace Mine

section
variable {G : Gl} {n : Nat} {cx : Cx} {loc : Loc} {σ : List MO} {P : MV → List MO → Prop} {PB : Bool → List MO → Prop}

noncomputable def SetT (us : List Value) : Sem Unit := match us with | [o, i, v] => setItem o i v | _ => unsupported ""
noncomputable def GetT (us : List Value) : Sem Value := match us with | [o, i] => getItem o i | _ => unsupported ""
noncomputable def DelT (us : List Value) : Sem Unit := match us with | [o, i] => delItem o i | _ => unsupported ""
noncomputable def RU : List Addr → Unit → Unit → Prop := fun _ _ _ => True

theorem setItem_at {prog : Program} {w : World} {A : Around} {E : Value → Shared → Prop} {s : Shared} {l : Addr} {items : Array Value} {m : Nat} {k : Int} {t : Tok} {v : Value} {Q : Unit → Shared → Prop}
    (hl : s.heap.get? l = some { cls := .type "list", data := .seq items m }) (h0 : 0 ≤ k) (hn : k < items.size) (hfit : k < 2 ^ 63)
    (hQ : ∀ h' m', h'.get? l = some { cls := .type "list", data := .seq (items.setIfInBounds k.toNat v) m' } → Heap.SameBut l s.heap h' → Q () { s with heap := h' }) :
    wpAny (model prog w) A (setItem (.ref l) (.int k t) v) Q E s := by
  have hL : s.heap.IsList l items := ⟨_, hl, rfl, m, rfl⟩
  have fin := hQ _ _ (IsL.update (n := m) hl (·.setIfInBounds k.toNat v)) (Heap.SameBut.update ..)
  unfold setItem
  refine wpAny_holding ?_
  refine wpAny_bind (wpAny_sequenceKey hL.typeIs (by decide) ?_)
  refine wpAny_bind (wpAny_callSpecial?_slot (name := Str.ofString "__setitem__") hL.typeIs slot_list_setitem
    (wpAny_call_entry slot_list_setitem hL.typeIs entry_list_setitem ?_ (args_list_setitem _ _ _)))
  show wpAny _ _ (Builtin.List.listSubscript? (.int k t) >>= _) _ _ s
  refine wpAny_bind (wpAny_listSubscript_int (fitsIndex_of h0 hfit) ?_)
  clear hfit
  obtain ⟨k, rfl⟩ := Int.eq_ofNat_of_zero_le h0
  have hn' : k < items.size := by lia
  have hx : items[k]? = some items[k] := Array.getElem?_eq_getElem hn'
  show wpAny _ _ ((seqItemAt l k >>= fun r => pure (r.map (k, ·))) >>= _) _ _ s
  refine wpAny_bind (wpAny_bind (wpAny_seqItemAt hl rfl (wpAny_pure ?_)))
  rw [hx]
  show wpAny _ _ (setSeqItemAt l k v >>= _) _ _ s
  refine wpAny_bind (wpAny_setSeqItemAt hl rfl ?_)
  first
    | exact wpAny_bind (wpAny_pure (wpAny_pure ⟨.none, rfl, wpAny_pure fin⟩))
    | exact wpAny_pure ⟨.none, rfl, wpAny_pure fin⟩

theorem O.setL {k : Nat} {i : Int} {xs : List MV} {v : MV} {P : Unit → List MO → Prop} (hk : σ[k]? = some (.list xs)) (h0 : 0 ≤ i) (hi : i < xs.length) (hl : xs.length ≤ 1000000) (h : P () (σ.set k (.list (xs.set i.toNat v)))) :
    O G n RU [.obj k, .int i, v] SetT σ P := by
  intro A fr L ρ loc us s Q hA hrel hus hQ
  obtain ⟨u, w, x, rfl, hu, ⟨t, rfl⟩, hx⟩ := three hus
  obtain ⟨a, vs, m, rfl, ea, ha, hvs⟩ := hrel.atList hu hk
  obtain ⟨j, rfl⟩ := Int.eq_ofNat_of_zero_le h0
  refine setItem_at (items := vs.toArray) ha h0 (by rw [List.size_toArray, hvs.length]; lia) (by lia) fun h' m' e' hs => ?_
  have hs' : ∀ b ob, b ≠ a → s.heap.get? b = some ob → h'.get? b = some ob := fun b ob hb e => (hs.2 b hb).trans e
  have e2 : (vs.toArray).setIfInBounds ((j : Int)).toNat x = (vs.set j x).toArray := by simp
  rw [e2] at e'
  exact hQ ρ () () _ h' s.toks (.update ea hs') trivial (hrel.update (mo := .list (xs.set j v)) ea hs' e' ⟨vs.set j x, m', rfl, hvs.set j hx⟩) h
theorem O.getL {k : Nat} {i : Int} {xs : List MV} {v : MV} (hk : σ[k]? = some (.list xs)) (h0 : 0 ≤ i) (hi : i < xs.length) (hl : xs.length ≤ 1000000) (hv : xs[i.toNat]? = some v) (h : P v σ) : O G n RV [.obj k, .int i] GetT σ P := by
  intro A fr L ρ loc us s Q hA hrel hus hQ
  obtain ⟨u, w, rfl, hu, t, rfl⟩ := two hus
  obtain ⟨a, vs, m, rfl, ea, ha, hvs⟩ := hrel.atList hu hk
  obtain ⟨x, hx, r⟩ := hvs.get hv
  exact wpAny_getItem_list (items := vs.toArray) ⟨_, ha, rfl, m, rfl⟩ h0 (by lia) (by simpa using hx) (hQ ρ v x σ s.heap s.toks .refl r hrel h)
theorem O.delL {k : Nat} {i : Int} {xs : List MV} {P : Unit → List MO → Prop} (hk : σ[k]? = some (.list xs)) (hlo : -(xs.length : Int) ≤ i) (hhi : i < xs.length) (hl : xs.length ≤ 1000000) (h : P () (σ.set k (.list (xs.eraseIdx (ixOf i xs.length))))) : O G n RU [.obj k, .int i] DelT σ P := by
  intro A fr L ρ loc us s Q hA hrel hus hQ
  obtain ⟨u, w, rfl, hu, t, rfl⟩ := two hus
  obtain ⟨a, vs, m, rfl, ea, ha, hvs⟩ := hrel.atList hu hk
  refine wpAny_delItem_plain (items := vs.toArray) (k := ixOf i xs.length) ⟨m, ha⟩ ?_ ?_ (fun h' hl' hs => ?_) (by rw [List.size_toArray, hvs.length, sizeLine_eq]; lia)
  · unfold Builtin.List.listFitsIndex
    simp; lia
  · rw [List.size_toArray, hvs.length]
    unfold seqIndex? ixOf
    by_cases h0 : 0 ≤ i
    · have e1 : ¬ i < 0 := by lia
      simp [e1, h0]; lia
    · have e1 : i < 0 := by lia
      simp [e1, h0]; lia
  · obtain ⟨m', e'⟩ := hl'
    have hs' : ∀ b ob, b ≠ a → s.heap.get? b = some ob → h'.get? b = some ob := fun b ob hb e => (hs.2 b hb).trans e
    rw [show vs.toArray.eraseIdxIfInBounds (ixOf i xs.length) = (vs.eraseIdx (ixOf i xs.length)).toArray by simp] at e'
    exact hQ ρ () () _ h' s.toks (.update ea hs') trivial (hrel.update (mo := .list (xs.eraseIdx (ixOf i xs.length))) ea hs' e' ⟨_, m', rfl, hvs.eraseIdx _⟩) h

theorem WS.assignSub {o i : Expr} {p pos : Pos} {e : Expr} {P : MF → Loc → List MO → Prop} (h : WE G n cx e loc σ fun v σ₁ => WE G n cx o loc σ₁ fun a σ₂ => WE G n cx i loc σ₂ fun b σ₃ => O G n RU [a, b, v] SetT σ₃ fun _ σ₄ => P .next loc σ₄)
    (hs : ∀ env, swapsWith e (some (.Subscript o i p)) pos.line env = pure false := by intro _; rfl) : WS G n cx (.Assign [.Subscript o i p] e pos) loc σ P := by
  intro A fr env L ρ s Q hA hact hrel hQ
  refine wpAny_Assign_Subscript (h A fr env L ρ s _ hA hact hrel ?_) (hs env)
  rintro ρ₁ v vv _ σ₁ h₁ t₁ S₁ R₁ rel₁ ⟨rfl, hP₁⟩
  refine hP₁ A fr env L ρ₁ _ _ hA (hact.mono S₁.pre) rel₁ ?_
  rintro ρ₂ a va _ σ₂ h₂ t₂ S₂ R₂ rel₂ ⟨rfl, hP₂⟩
  refine hP₂ A fr env L ρ₂ _ _ hA ((hact.mono S₁.pre).mono S₂.pre) rel₂ ?_
  rintro ρ₃ b vb _ σ₃ h₃ t₃ S₃ R₃ rel₃ ⟨rfl, hP₃⟩
  refine hP₃ A fr L ρ₃ _ [va, vb, vv] _ _ hA rel₃ ⟨R₂.mono S₃.pre, R₃, R₁.mono (S₂.trans S₃).pre, trivial⟩ ?_
  rintro ρ₄ _ _ σ₄ h₄ t₄ S₄ _ rel₄ hP₄
  exact hQ ρ₄ .next _ _ σ₄ h₄ t₄ (S₁.trans (S₂.trans (S₃.trans S₄))) rfl rel₄ hP₄
theorem WS.augSub {o i : Expr} {p pos : Pos} {op : Operator} {e : Expr} {P : MF → Loc → List MO → Prop} (h : WE G n cx o loc σ fun a σ₁ => WE G n cx i loc σ₁ fun b σ₂ => O G n RV [a, b] GetT σ₂ fun old σ₃ => WE G n cx e loc σ₃ fun v σ₄ =>
      OInp G n op old v σ₄ fun r σ₅ => O G n RU [a, b, r] SetT σ₅ fun _ σ₆ => P .next loc σ₆)
    (hs : ∀ ov iv new, augStore i ov iv new = (do holding [new, ov, iv] (setItem ov iv new); release [new, ov, iv] []; pure Flow.next) := by intro _ _ _; rfl) : WS G n cx (.AugAssign (.Subscript o i p) op e pos) loc σ P := by
  intro A fr env L ρ s Q hA hact hrel hQ
  refine wpAny_AugAssign_SubscriptAny (h A fr env L ρ s _ hA hact hrel ?_) hs
  rintro ρ₁ a va _ σ₁ h₁ t₁ S₁ R₁ rel₁ ⟨rfl, hP₁⟩
  refine hP₁ A fr env L ρ₁ _ _ hA (hact.mono S₁.pre) rel₁ ?_
  rintro ρ₂ b vb _ σ₂ h₂ t₂ S₂ R₂ rel₂ ⟨rfl, hP₂⟩
  refine hP₂ A fr L ρ₂ _ [va, vb] _ _ hA rel₂ ⟨R₁.mono S₂.pre, R₂, trivial⟩ ?_
  rintro ρ₃ old vo σ₃ h₃ t₃ S₃ R₃ rel₃ hP₃
  have S3 := S₁.trans (S₂.trans S₃)
  refine hP₃ A fr env L ρ₃ _ _ hA (hact.mono S3.pre) rel₃ ?_
  rintro ρ₄ v vv _ σ₄ h₄ t₄ S₄ R₄ rel₄ ⟨rfl, hP₄⟩
  refine hP₄ A fr L ρ₄ _ [vo, vv] _ _ hA rel₄ ⟨R₃.mono S₄.pre, R₄, trivial⟩ ?_
  rintro ρ₅ r vr σ₅ h₅ t₅ S₅ R₅ rel₅ hP₅
  refine hP₅ A fr L ρ₅ _ [va, vb, vr] _ _ hA rel₅ ⟨R₁.mono (S₂.trans (S₃.trans (S₄.trans S₅))).pre, R₂.mono (S₃.trans (S₄.trans S₅)).pre, R₅, trivial⟩ ?_
  rintro ρ₆ _ _ σ₆ h₆ t₆ S₆ _ rel₆ hP₆
  exact hQ ρ₆ .next _ _ σ₆ h₆ t₆ (S3.trans (S₄.trans (S₅.trans S₆))) rfl rel₆ hP₆
theorem WS.delSub {o i : Expr} {p pos : Pos} {P : MF → Loc → List MO → Prop} (h : WE G n cx o loc σ fun a σ₁ => WE G n cx i loc σ₁ fun b σ₂ => O G n RU [a, b] DelT σ₂ fun _ σ₃ => P .next loc σ₃) : WS G n cx (.Delete [.Subscript o i p] pos) loc σ P := by
  intro A fr env L ρ s Q hA hact hrel hQ
  refine wpAny_Delete (wpAny_deleteEach_cons (wpAny_delete_Subscript (h A fr env L ρ s _ hA hact hrel ?_)))
  rintro ρ₁ a va _ σ₁ h₁ t₁ S₁ R₁ rel₁ ⟨rfl, hP₁⟩
  refine hP₁ A fr env L ρ₁ _ _ hA (hact.mono S₁.pre) rel₁ ?_
  rintro ρ₂ b vb _ σ₂ h₂ t₂ S₂ R₂ rel₂ ⟨rfl, hP₂⟩
  refine hP₂ A fr L ρ₂ _ [va, vb] _ _ hA rel₂ ⟨R₁.mono S₂.pre, R₂, trivial⟩ ?_
  rintro ρ₃ _ _ σ₃ h₃ t₃ S₃ _ rel₃ hP₃
  exact wpAny_deleteEach_nil (hQ ρ₃ .next _ _ σ₃ h₃ t₃ (S₁.trans (S₂.trans S₃)) rfl rel₃ hP₃)
theorem WS.assert {t : Expr} {m : Option Expr} {pos : Pos} {P : MF → Loc → List MO → Prop} (h : WB G n cx t loc σ fun b σ₁ => b = true ∧ P .next loc σ₁) : WS G n cx (.Assert t m pos) loc σ P := by
  intro A fr env L ρ s Q hA hact hrel hQ
  refine wpAny_Assert_holds (h A fr env L ρ s _ hA hact hrel ?_)
  rintro ρ₁ b vb _ σ₁ h₁ t₁ S₁ R₁ rel₁ ⟨rfl, rfl, hP₁⟩
  cases R₁
  exact ⟨rfl, hQ ρ₁ .next _ _ σ₁ h₁ t₁ S₁ rfl rel₁ hP₁⟩

theorem WB.of {e : Expr} (h : WE G n cx e loc σ fun v σ₁ => OTru G n v σ₁ PB) (he : ∀ env w, isTrue e env w = (do let v ← w; standAt e.pos; holding [v] (truthy v)) := by intro _ _; rfl) : WB G n cx e loc σ PB := by
  intro A fr env L ρ s Q hA hact hrel hQ
  show wpAny _ A (isTrue e env (eval e env)) Q NoE s
  rw [he]
  refine wpAny_bind (h A fr env L ρ s _ hA hact hrel ?_)
  rintro ρ₁ v vv _ σ₁ h₁ t₁ S₁ R₁ rel₁ ⟨rfl, hP₁⟩
  refine wpAny_bind (wpAny_standAt (wpAny_holding ?_))
  refine hP₁ A fr L ρ₁ _ [vv] _ _ hA rel₁ ⟨R₁, trivial⟩ ?_
  rintro ρ₂ b vb σ₂ h₂ t₂ S₂ R₂ rel₂ hP₂
  exact hQ ρ₂ b vb _ σ₂ h₂ t₂ (S₁.trans S₂) R₂ rel₂ ⟨rfl, hP₂⟩
theorem WB.and {a b : Expr} {pos : Pos} (h : WB G n cx a loc σ fun c σ₁ => (c = true → WB G n cx b loc σ₁ PB) ∧ (c = false → PB false σ₁)) : WB G n cx (.BoolOp .And [a, b] pos) loc σ PB := by
  intro A fr env L ρ s Q hA hact hrel hQ
  show wpAny _ A (isTrue (.BoolOp .And [a, b] pos) env _) Q NoE s
  rw [arm_isTrue_BoolOp, arm_allTrue_cons]
  refine wpAny_bind (h A fr env L ρ s _ hA hact hrel ?_)
  rintro ρ₁ c vc _ σ₁ h₁ t₁ S₁ R₁ rel₁ ⟨rfl, hP₁⟩
  cases R₁
  cases c with
  | false => exact wpAny_pure (hQ ρ₁ false _ _ σ₁ h₁ t₁ S₁ rfl rel₁ ⟨rfl, hP₁.2 rfl⟩)
  | true =>
    show wpAny _ A (allTrue .And [b] env) Q NoE _
    rw [arm_allTrue_cons]
    refine wpAny_bind (hP₁.1 rfl A fr env L ρ₁ _ _ hA (hact.mono S₁.pre) rel₁ ?_)
    rintro ρ₂ d vd _ σ₂ h₂ t₂ S₂ R₂ rel₂ ⟨rfl, hP₂⟩
    cases R₂
    cases d with
    | false => exact wpAny_pure (hQ ρ₂ false _ _ σ₂ h₂ t₂ (S₁.trans S₂) rfl rel₂ ⟨rfl, hP₂⟩)
    | true => exact wpAny_pure (hQ ρ₂ true _ _ σ₂ h₂ t₂ (S₁.trans S₂) rfl rel₂ ⟨rfl, hP₂⟩)
theorem WB.or {a b : Expr} {pos : Pos} (h : WB G n cx a loc σ fun c σ₁ => (c = false → WB G n cx b loc σ₁ PB) ∧ (c = true → PB true σ₁)) : WB G n cx (.BoolOp .Or [a, b] pos) loc σ PB := by
  intro A fr env L ρ s Q hA hact hrel hQ
  show wpAny _ A (isTrue (.BoolOp .Or [a, b] pos) env _) Q NoE s
  rw [arm_isTrue_BoolOp, arm_allTrue_cons]
  refine wpAny_bind (h A fr env L ρ s _ hA hact hrel ?_)
  rintro ρ₁ c vc _ σ₁ h₁ t₁ S₁ R₁ rel₁ ⟨rfl, hP₁⟩
  cases R₁
  cases c with
  | true => exact wpAny_pure (hQ ρ₁ true _ _ σ₁ h₁ t₁ S₁ rfl rel₁ ⟨rfl, hP₁.2 rfl⟩)
  | false =>
    show wpAny _ A (allTrue .Or [b] env) Q NoE _
    rw [arm_allTrue_cons]
    refine wpAny_bind (hP₁.1 rfl A fr env L ρ₁ _ _ hA (hact.mono S₁.pre) rel₁ ?_)
    rintro ρ₂ d vd _ σ₂ h₂ t₂ S₂ R₂ rel₂ ⟨rfl, hP₂⟩
    cases R₂
    cases d with
    | false => exact wpAny_pure (hQ ρ₂ false _ _ σ₂ h₂ t₂ (S₁.trans S₂) rfl rel₂ ⟨rfl, hP₂⟩)
    | true => exact wpAny_pure (hQ ρ₂ true _ _ σ₂ h₂ t₂ (S₁.trans S₂) rfl rel₂ ⟨rfl, hP₂⟩)
end
end Mine

namespace Mine

section
variable {G : Gl} {n : Nat} {cx : Cx} {loc : Loc} {σ : List MO} {P : MV → List MO → Prop} {PB : Bool → List MO → Prop}

noncomputable def upto {α : Type} (xs : List α) (j : Int) : List α := if 0 ≤ j then xs.take j.toNat else xs.take (xs.length - j.natAbs)

theorem RVs.upto {ρ : List Addr} {ms : List MV} {vs : List Value} (j : Int) (r : RVs ρ ms vs) : RVs ρ (Mine.upto ms j) (Mine.upto vs j) := by
  unfold Mine.upto
  rw [r.length]
  split <;> exact r.take _

theorem WE.upto {value e : Expr} {p pos : Pos} (h : WE G n cx value loc σ fun a σ₁ => WE G n cx e loc σ₁ fun b σ₂ => ∃ k xs j, a = .obj k ∧ σ₂[k]? = some (.list xs) ∧ xs.length ≤ 1000000 ∧ b = .int j ∧ -1000000 ≤ j ∧ P (.obj σ₂.length) (σ₂ ++ [.list (upto xs j)]))
    (hs : ∀ o i, ∃ ops, subscripted (.Slice none (some e) none p) false o i = operate ops (getItem o i) := by intro _ _; exact ⟨_, rfl⟩) : WE G n cx (.Subscript value (.Slice none (some e) none p) pos) loc σ P := by
  intro A fr env L ρ s Q hA hact hrel hQ
  refine Subscript_ (h A fr env L ρ s _ hA hact hrel ?_)
  rintro ρ₁ a va _ σ₁ h₁ t₁ S₁ R₁ rel₁ ⟨rfl, hP₁⟩
  refine wpAny_Slice (evalPart_none_step (evalPart_some_step (hP₁ A fr env L ρ₁ _ _ hA (hact.mono S₁.pre) rel₁ ?_)))
  rintro ρ₂ b vb _ σ₂ h₂ t₂ S₂ R₂ rel₂ ⟨rfl, k, xs, j, rfl, hk, hl, rfl, hj, hP⟩
  refine evalPart_none_step ?_
  obtain ⟨t, rfl⟩ := R₂
  obtain ⟨l, vs, m, rfl, ea, ha, hvs⟩ := rel₂.atList (RV.mono S₂.pre R₁) hk
  dsimp only
  have k₃ : ∀ b o, h₂.get? b = some o → (h₂.push { cls := .type "slice", data := .fields #[.none, .int j t, .none] }).get? b = some o := fun b o e => Heap.get?_push_of_some _ e
  have rel₃ := rel₂.ext k₃
  obtain ⟨ops, hops⟩ := hs (.ref l) (.ref h₂.objs.size)
  have ha₃ := k₃ _ _ ha
  have hsl := Heap.get?_push_size h₂ (o := { cls := .type "slice", data := .fields #[.none, .int j t, .none] }) rfl
  have hlen := hvs.length
  generalize hH : h₂.push { cls := .type "slice", data := .fields #[.none, .int j t, .none] } = H at k₃ rel₃ ha₃ hsl
  have isl : H.IsList l vs.toArray := ⟨_, ha₃, rfl, m, rfl⟩
  refine tail_any (s := { s with heap := H, toks := t₂ }) (isl.typeIs (s := { s with heap := H, toks := t₂ })) slot_list_getitem.lookup ?_ hops
  refine wpAny_getItem_list_slice (s := { s with heap := H, toks := t₂ }) (lo := none) (hi := some j) (st := none) isl ⟨_, hsl, rfl, rfl⟩ .none (.int j t) .none (by simp) ?_ (by rw [List.size_toArray, hlen, sizeLine_eq]; lia)
  have e1 : slicePick vs.toArray none (some j) none = (Mine.upto vs j).toArray := by
    unfold Mine.upto
    by_cases h0 : 0 ≤ j
    · obtain ⟨i, rfl⟩ := Int.eq_ofNat_of_zero_le h0
      rw [if_pos h0, slicePick_upto']
      simp
    · rw [if_neg h0]
      have e2 : j = -((j.natAbs : Nat) : Int) := by lia
      rw [e2, slicePick_butLast _ _ (by lia)]
      simp
  rw [e1]
  have made := rel₃.push (mo := .list (Mine.upto xs j)) (o := { cls := .type "list", data := .seq (Mine.upto vs j).toArray }) ⟨_, 0, rfl, hvs.upto j⟩ rfl
  have Sp := rel₃.pushStep { cls := .type "list", data := .seq (Mine.upto vs j).toArray }
  exact hQ (ρ₂ ++ [H.objs.size]) (.obj σ₂.length) _ _ _ _ t₂ ((S₁.trans S₂).trans ((Step.ext k₃).trans Sp)) ⟨_, get_last rel₂.len, rfl⟩ made ⟨rfl, hP⟩

noncomputable def Undressed : MV → List MO → Prop
  | .str _, _ => True
  | .obj k, σ => ∃ xs, σ[k]? = some (.list xs)
  | _, _ => False
theorem Undressed.kind {a : MV} {σ : List MO} (h : Undressed a σ) : (∃ x, a = .str x) ∨ ∃ k xs, a = .obj k ∧ σ[k]? = some (.list xs) :=
  match a, h with
  | .str x, _ => .inl ⟨x, rfl⟩
  | .obj k, ⟨xs, h⟩ => .inr ⟨k, xs, rfl, h⟩
noncomputable def tyOf : MV → String
  | .str _ => "str"
  | _ => "list"

theorem WE.method {o : Expr} {name : Str} {ap pos : Pos} {es : List Expr} {T id : String} (hT : PlainAttrs T) (hS : Slot T name id) (hd : typeOf (.builtin id) = pure (.type "method_descriptor"))
    (h : WE G n cx o loc σ fun a σ₁ => Undressed a σ₁ ∧ tyOf a = T ∧ WEs G n cx es loc σ₁ fun vs σ₂ => OCall G n (.top (.builtin id)) (a :: vs) σ₂ P)
    (hb : ∀ env, attributeBase o name env (eval o env) = eval o env := by intro _; rfl)
    (hargs : ∀ env, ((((backTo pos (starEach es env)).all fun x => !x.fst) && (backToKw pos (keywordEach [] env)).all fun x => x.fst.isSome) && decide ((es.length + ([] : List Keyword).length + if ([] : List Keyword).isEmpty = true then 0 else 1) < 30)) = true := by intro _; rfl)
    (hl : (ap.endLine == pos.line) = true := by rfl) (hp : (es.all fun | .Starred .. => false | _ => true) = true := by rfl) : WE G n cx (.Call (.Attribute o name ap) es [] pos) loc σ P := by
  intro A fr env L ρ s Q hA hact hrel hQ
  refine wpAny_Call_method (hb env) (hargs env) hl hT hS hd (h A fr env L ρ s _ hA hact hrel ?_)
  rintro ρ₁ a va _ σ₁ h₁ t₁ S₁ R₁ rel₁ ⟨rfl, hu, rfl, hP₁⟩
  have fin : wpAny (model G.prog G.w) A (callWith pos (.builtin id) [va] (backTo pos (starEach es env)) []) Q NoE { s with heap := h₁, toks := t₁ } := by
    refine callWith_top (by intro _ e; cases e) (plain_args pos env hp) (evalArgs_any hp (hP₁ pos A fr env L ρ₁ _ _ hA (hact.mono S₁.pre) rel₁ ?_))
    rintro ρ₂ vs us _ σ₂ h₂ t₂ S₂ R₂ rel₂ ⟨rfl, hP₂⟩
    refine hP₂ A fr L ρ₂ _ (.builtin id :: va :: us) _ _ hA rel₂ ⟨rfl, R₁.mono S₂.pre, R₂⟩ ?_
    rintro ρ₃ w vw σ₃ h₃ t₃ S₃ R₃ rel₃ hP₃
    exact hQ ρ₃ w vw _ σ₃ h₃ t₃ (S₁.trans (S₂.trans S₃)) R₃ rel₃ ⟨rfl, hP₃⟩
  rcases hu.kind with ⟨x, rfl⟩ | ⟨k, xs, rfl, hk⟩
  · obtain ⟨t, rfl⟩ := R₁
    exact ⟨typeIs_str _ _ _, (by intro _ e; cases e), fin⟩
  · obtain ⟨l, vs, m, rfl, ea, ha, hvs⟩ := rel₁.atList R₁ hk
    exact ⟨⟨_, ha, rfl⟩, (by intro a e; cases e; exact ⟨_, ha, rfl⟩), fin⟩

theorem strs_of {ρ : List Addr} : ∀ {ls : List (List Nat)} {vs : List Value}, RVs ρ (ls.map fun l => .str (S l)) vs → ∃ l : List (Str × Tok), vs = strValues l ∧ l.map (·.1) = ls.map S
  | [], [], _ => ⟨[], rfl, rfl⟩
  | x :: ls, v :: vs, ⟨⟨t, e⟩, r⟩ => by
    obtain ⟨l, e1, e2⟩ := strs_of r
    exact ⟨(S x, t) :: l, by rw [e, e1]; rfl, by simp [e2]⟩
  | [], _ :: _, r => r.elim
  | _ :: _, [], r => r.elim

theorem glued_empty : ∀ ls : List (List Nat), Builtin.Str.glued (S []) (ls.map S) = S ls.flatten
  | [] => rfl
  | x :: ls => by
    have key : ∀ (ls : List (List Nat)) (acc : List Nat), (ls.map S).foldl (fun (acc : Array Nat) p => acc ++ (S []).cps ++ p.cps) acc.toArray = (acc ++ ls.flatten).toArray := by
      intro ls
      induction ls with
      | nil => intro acc; simp
      | cons y ls ih =>
        intro acc
        rw [List.map_cons, List.foldl_cons]
        have : acc.toArray ++ (S []).cps ++ (S y).cps = (acc ++ y).toArray := by simp [S]
        rw [this, ih, List.flatten_cons, List.append_assoc]
    unfold Builtin.Str.glued
    simp only [List.map_cons, List.drop_succ_cons, List.drop_zero, List.headD_cons]
    show (⟨_⟩ : Str) = S _
    rw [show (S x).cps = x.toArray from rfl, key ls x]
    rfl
theorem foldl_len : ∀ (l : List Str) (a : Nat), l.foldl (fun (x1 : Nat) (x2 : Str) => x1 + x2.length + 0) a = a + (l.map (·.length)).sum
  | [], a => by simp
  | x :: l, a => by rw [List.foldl_cons, foldl_len l, List.map_cons, List.sum_cons]; lia
theorem OCall.join {k : Nat} {ls : List (List Nat)} (hk : σ[k]? = some (.list (ls.map fun l => .str (S l)))) (hl : ls.flatten.length ≤ 1000000) (h : P (.str (S ls.flatten)) σ) : OCall G n (.top (.builtin "str.join")) [.str (S []), .obj k] σ P := by
  intro A fr L ρ loc us s Q hA hrel hus hQ
  obtain ⟨f, u, w, rfl, hf, ⟨t, rfl⟩, hw⟩ := three hus
  cases hf
  obtain ⟨a, vs, m, rfl, ea, ha, hvs⟩ := hrel.atList hw hk
  obtain ⟨l, rfl, hl2⟩ := strs_of hvs
  refine SC.join (l := l) (texts := ls.map S) ⟨_, ha, rfl, m, rfl⟩ hl2 ?_ fun t' k' => ?_
  · unfold JoinOk Builtin.Str.tooLong
    rw [show (S []).length = 0 from rfl]
    have : Array.foldl (fun (x1 : Nat) (x2 : Str) => x1 + x2.length + 0) 0 (ls.map S).toArray = ls.flatten.length := by
      rw [List.foldl_toArray, foldl_len]
      simp only [List.map_map, List.length_flatten, Nat.zero_add]
      congr 1
    rw [this]
    rw [decide_eq_false (by simp only [sizeLine]; lia)]; rfl
  · have e : Txt.join (S []) (ls.map S) = S ls.flatten := glued_empty ls
    rw [e]
    exact hQ ρ (.str (S ls.flatten)) _ σ s.heap k' .refl ⟨_, rfl⟩ hrel h

theorem RVs_strs {ρ : List Addr} : ∀ (l : List (Str × Tok)), RVs ρ ((l.map (·.1)).map .str) (strValues l)
  | [] => trivial
  | (x, t) :: l => ⟨⟨t, rfl⟩, RVs_strs l⟩
theorem OCall.split {x y : Str} (hx : x.length ≤ 1000000) (hy : (y.length == 0) = false) (hz : (Txt.split x y).length ≤ 1000000) (h : P (.obj σ.length) (σ ++ [.list ((Txt.split x y).map .str)])) : OCall G n (.top (.builtin "str.split")) [.str x, .str y] σ P := by
  intro A fr L ρ loc us s Q hA hrel hus hQ
  obtain ⟨f, u, w, rfl, hf, ⟨t, rfl⟩, ⟨t', rfl⟩⟩ := three hus
  cases hf
  have fin : ∀ (l : List (Str × Tok)) tk, l.map (·.1) = Txt.split x y → Q (.ref s.heap.objs.size) { s with heap := s.heap.push { cls := .type "list", data := .seq (strValues l).toArray }, toks := tk } := fun l tk hl => by
    have := RVs_strs (ρ := ρ) l
    rw [hl] at this
    exact hQ (ρ ++ [s.heap.objs.size]) (.obj σ.length) _ _ _ tk (hrel.pushStep _) ⟨_, get_last hrel.len, rfl⟩ (hrel.push (mo := .list ((Txt.split x y).map .str)) ⟨strValues l, 0, rfl, this⟩ rfl) h
  cases h1 : (decide (x.length < y.length) || decide (Builtin.Str.strKind x < Builtin.Str.strKind y))
  · cases hf : (Builtin.Str.occurrences x y 0 x.length (x.length + 1)).isEmpty
    · have e0 : Txt.split x y = Builtin.Str.partsBetween x (Builtin.Str.occurrences x y 0 x.length (x.length + 1)) y.length := by
        unfold Txt.split; rw [h1, hf]; rfl
      refine call_meets F.slot_str_split (typeIs_str _ _ _) F.entry_str_split (F.args_str_split_2 _ _) (meets_str_split_sep x y t t' h1 hy hf (by rw [sizeLine_eq]; lia) (by rw [← e0, sizeLine_eq]; lia)) ?_
      show Q _ _
      rw [strsFrom_eq, ← e0]
      exact fin (numbered s.toks (Txt.split x y)) _ (numbered_texts _ _)
    · have e0 : Txt.split x y = [x] := by
        unfold Txt.split; rw [h1, hf]; rfl
      exact call_meets F.slot_str_split (typeIs_str _ _ _) F.entry_str_split (F.args_str_split_2 _ _) (meets_str_split_not_found x y t t' h1 hy hf) (fin [(x, t)] s.toks (by rw [e0]; rfl))
  · have e0 : Txt.split x y = [x] := by
      unfold Txt.split; rw [h1]; rfl
    exact call_meets F.slot_str_split (typeIs_str _ _ _) F.entry_str_split (F.args_str_split_2 _ _) (meets_str_split_cannot_occur x y t t' h1) (fin [(x, t)] s.toks (by rw [e0]; rfl))

theorem gives_find4 (x y : Str) (i j : Nat) (t u v v' : Tok) (hj : j ≤ x.length) : Gives (Builtin.«str.find» ⟨[.str x t, .str y u, .int i v, .int j v'], []⟩) (.int (match Builtin.Str.occurrences x y i j 1 with | k :: _ => (k : Int) | [] => -1)) := by
  show Gives (match Builtin.Str.occurrences x y (fromIndex x.length i) (min (fromIndex x.length j) x.length) 1 with | k :: _ => retInt k | [] => (do rule "str.find.not-found"; retInt (-1))) _
  have e : ∀ k : Nat, fromIndex x.length (k : Int) = k := fun k => by unfold fromIndex; rw [if_neg (by lia)]; lia
  rw [e, e, Nat.min_eq_left hj]
  cases Builtin.Str.occurrences x y i j 1 with
  | nil => exact .rule (.of_eq rfl)
  | cons k _ => exact .of_eq rfl
end
end Mine

namespace Mine

section
variable {G : Gl} {n : Nat} {cx : Cx} {loc : Loc} {σ : List MO} {P : MV → List MO → Prop} {PB : Bool → List MO → Prop}

noncomputable def Iterable (v : MV) (σ : List MO) : Prop := ∃ k, v = .obj k ∧ ((∃ xs, σ[k]? = some (.list xs)) ∨ ∃ xs, σ[k]? = some (.tup xs))

theorem notIter_of {v : MV} {fr : List Env} {L : Addr} {ρ : List Addr} {s : Shared} {u : Value} {A : Around} {Q : Bool → Shared → Prop} (hit : Iterable v σ) (hrel : Rel G fr L ρ loc σ s.heap) (hu : RV ρ v u) (h : Q false s) : wpAny (model G.prog G.w) A (notIterableAtAll u) Q NoE s := by
  obtain ⟨k, rfl, ⟨xs, hk⟩ | ⟨xs, hk⟩⟩ := hit
  · obtain ⟨a, vs, m, rfl, ea, ha, hvs⟩ := hrel.atList hu hk
    unfold notIterableAtAll
    exact wpAny_bind (wpAny_specialOf (T := "list") ⟨_, ha, rfl⟩ slot_list_iter.lookup (wpAny_pure h))
  · obtain ⟨a, vs, m, rfl, ea, ha, hvs⟩ := hrel.atTup hu hk
    unfold notIterableAtAll
    exact wpAny_bind (wpAny_specialOf (T := "tuple") ⟨_, ha, rfl⟩ slot_tuple_iter.lookup (wpAny_pure h))

theorem draw_any {I : Addr} {xs : List MV} {ok : List MO → Prop} (it : Iter G n I xs ok) {A : Around} {fr : List Env} {L : Addr} {ρ : List Addr} (hA : OkA n fr A) (hok : ok σ) (off : Off G fr L ρ I) :
    ∀ (j i : Nat) (s : Shared) (Q : List Value → Shared → Prop), Rel G fr L ρ loc σ s.heap → it.st i ρ s.heap → i + j ≤ xs.length →
      (∀ vs h' tk, RVs ρ ((xs.drop i).take j) vs → it.st (i + j) ρ h' → Rel G fr L ρ loc σ h' → (∀ b o, b ≠ I → s.heap.get? b = some o → h'.get? b = some o) → Q vs { s with heap := h', toks := tk }) → wpAny (model G.prog G.w) A (draw (.ref I) j) Q NoE s
  | 0, i, s, Q, hrel, st, _, hQ => wpAny_pure (hQ [] s.heap s.toks (by simp [RVs]) st hrel fun _ _ _ e => e)
  | j + 1, i, s, Q, hrel, st, hle, hQ => by
    have hlt : i < xs.length := by lia
    show wpAny _ _ (pyNext (.ref I) >>= _) Q NoE s
    refine wpAny_bind (it.next hA hrel off hok st (List.getElem?_eq_getElem hlt) fun v h₁ t₁ rv st₁ k₁ => ?_)
    have rel₁ := hrel.but off k₁
    refine wpAny_bind (wpAny_holding (draw_any it hA hok off j (i + 1) _ _ rel₁ st₁ (by lia) fun vs h₂ t₂ rvs st₂ rel₂ k₂ => wpAny_pure ?_))
    refine hQ (v :: vs) h₂ t₂ ?_ (by rw [show i + (j + 1) = i + 1 + j by lia]; exact st₂) rel₂ fun b o hb e => k₂ b o hb (k₁ b o hb e)
    rw [List.drop_eq_getElem_cons hlt, List.take_succ_cons]
    exact ⟨rv, rvs⟩

theorem unpackItems_any {v : MV} {xs : List MV} {ok : List MO → Prop} (src : Src G n v xs ok σ) (hok : ok σ) (hit : Iterable v σ) {A : Around} {fr : List Env} {L : Addr} {ρ : List Addr} (hA : OkA n fr A) {s : Shared} {u : Value} (hrel : Rel G fr L ρ loc σ s.heap) (hu : RV ρ v u)
    {Q : List Value → Shared → Prop} (hQ : ∀ vs h' tk, RVs ρ xs vs → (∀ b o, s.heap.get? b = some o → h'.get? b = some o) → Q vs { s with heap := h', toks := tk }) : wpAny (model G.prog G.w) A (unpackItems u xs.length none) Q NoE s := by
  unfold unpackItems
  refine wpAny_bind (notIter_of hit hrel hu ?_)
  simp only [Bool.false_eq_true, if_false]
  refine wpAny_bind (wpAny_holding (src A fr L ρ loc u s _ hA hrel hu ?_))
  intro I it h₁ t₁ hI k₁ st₁
  have rel₁ := hrel.ext k₁
  have off : Off G fr L ρ I := hrel.off hI
  refine wpAny_bind (wpAny_holding (draw_any it hA hok off xs.length 0 _ _ rel₁ st₁ (by lia) fun vs h₂ t₂ rvs st₂ rel₂ k₂ => ?_))
  rw [List.drop_zero, List.take_length] at rvs
  rw [if_neg (by rw [rvs.length]; exact Nat.lt_irrefl _)]
  refine wpAny_bind (wpAny_holding (it.done hA rel₂ off hok st₂ (by simp) fun h₃ t₃ k₃ => ?_))
  simp only [Option.isSome_none, Bool.false_eq_true, if_false]
  have hne : ∀ b o, s.heap.get? b = some o → b ≠ I := fun b o e q => by rw [q, hI] at e; cases e
  exact wpAny_pure (hQ vs h₃ t₃ rvs fun b o e => k₃ b o (hne b o e) (k₂ b o (hne b o e) (k₁ b o e)))

noncomputable def WAs (G : Gl) (n : Nat) (cx : Cx) : List Expr → List MV → Loc → List MO → (Loc → List MO → Prop) → Prop
  | [], [], loc, σ, P => P loc σ
  | t :: ts, v :: vs, loc, σ, P => WA G n cx t v loc σ fun loc₁ σ₁ => WAs G n cx ts vs loc₁ σ₁ P
  | _, _, _, _, _ => False

theorem WAs.run : ∀ {ts : List Expr} {vs : List MV} {loc : Loc} {σ : List MO} {P : Loc → List MO → Prop}, WAs G n cx ts vs loc σ P → (ts.all fun | .Starred .. => false | _ => true) = true →
    ∀ (A : Around) (fr : List Env) (env : Env) (L : Addr) (ρ : List Addr) (us : List Value) (s : Shared) (Q : Unit → Shared → Prop), OkA n fr A → Act cx ρ L env → Rel G fr L ρ loc σ s.heap → RVs ρ vs us →
    (∀ ρ' loc' σ' h' tk', Step fr ρ ρ' L s.heap h' → Rel G fr L ρ' loc' σ' h' → P loc' σ' → Q () { s with heap := h', toks := tk' }) → wpAny (model G.prog G.w) A (assignInOrder ((assignEach ts env).map (·.2)) us) Q NoE s
  | [], [], loc, σ, P, h, _ => by
    intro A fr env L ρ us s Q hA hact hrel hus hQ
    exact wpAny_pure (hQ ρ loc σ s.heap s.toks .refl hrel h)
  | t :: ts, v :: vs, loc, σ, P, h, hp => by
    intro A fr env L ρ us s Q hA hact hrel hus hQ
    match us, hus with
    | u :: us, ⟨hu, hus⟩ =>
    rw [List.all_cons, Bool.and_eq_true] at hp
    have e : (assignEach (t :: ts) env).map (·.2) = assign t env :: (assignEach ts env).map (·.2) := by
      cases t <;> first | rfl | exact absurd hp.1 (by simp)
    rw [e]
    show wpAny _ A (do holding us (assign t env u); assignInOrder ((assignEach ts env).map (·.2)) us) Q NoE s
    refine wpAny_bind (wpAny_holding (h A fr env L ρ u s _ hA hact hrel hu ?_))
    intro ρ₁ loc₁ σ₁ h₁ t₁ S₁ rel₁ hP₁
    refine WAs.run hP₁ hp.2 A fr env L ρ₁ us _ _ hA (hact.mono S₁.pre) rel₁ (hus.mono S₁.pre) ?_
    intro ρ₂ loc₂ σ₂ h₂ t₂ S₂ rel₂ hP₂
    exact hQ ρ₂ loc₂ σ₂ h₂ t₂ (S₁.trans S₂) rel₂ hP₂
  | [], _ :: _, _, _, _, h, _ => h.elim
  | _ :: _, [], _, _, _, h, _ => h.elim

theorem assignEach_length (env : Env) : ∀ {ts : List Expr}, (assignEach ts env).length = ts.length
  | [] => rfl
  | t :: ts => by cases t <;> exact congrArg (· + 1) (assignEach_length env)
theorem assignEach_plain (env : Env) : ∀ {ts : List Expr}, (ts.all fun | .Starred .. => false | _ => true) = true → (assignEach ts env).findIdx? (·.1) = none
  | [], _ => rfl
  | t :: ts, hp => by
    rw [List.all_cons, Bool.and_eq_true] at hp
    have ih := assignEach_plain env hp.2
    have e : assignEach (t :: ts) env = (false, assign t env) :: assignEach ts env := by
      cases t <;> first | rfl | exact absurd hp.1 (by simp)
    rw [e, List.findIdx?_cons, ih]; rfl

theorem WA.tup {ts : List Expr} {k : Nat} {pos : Pos} {v : MV} {P : Loc → List MO → Prop} (hp : (ts.all fun | .Starred .. => false | _ => true) = true) (h : ∃ xs ok, Src G n v xs ok σ ∧ ok σ ∧ Iterable v σ ∧ xs.length = ts.length ∧ WAs G n cx ts xs loc σ P) : WA G n cx (.Tuple ts k pos) v loc σ P := by
  obtain ⟨xs, ok, src, hok, hit, hlen, hch⟩ := h
  intro A fr env L ρ u s Q hA hact hrel hu hQ
  rw [assign_Tuple]
  refine wpAny_bind (wpAny_standAt ?_)
  unfold unpack
  rw [assignEach_length, assignEach_plain env hp, ← hlen]
  refine wpAny_bind (wpAny_holding (unpackItems_any src hok hit hA hrel hu fun vs h₁ t₁ rvs k₁ => ?_))
  refine hch.run hp A fr env L ρ vs _ _ hA hact (hrel.ext k₁) rvs ?_
  intro ρ₂ loc₂ σ₂ h₂ t₂ S₂ rel₂ hP₂
  exact hQ ρ₂ loc₂ σ₂ h₂ t₂ ((Step.ext k₁).trans S₂) rel₂ hP₂

theorem WS.assignTup {ts : List Expr} {k : Nat} {p pos : Pos} {e : Expr} {P : MF → Loc → List MO → Prop} (h : WE G n cx e loc σ fun v σ₁ => WA G n cx (.Tuple ts k p) v loc σ₁ fun l σ₂ => P .next l σ₂)
    (hs : ∀ env, swapsWithSole [.Tuple ts k p] e pos.line env = pure false := by intro _; rfl) (hw : ∀ env, swappedStores [.Tuple ts k p] e env = pure none := by intro _; rfl) : WS G n cx (.Assign [.Tuple ts k p] e pos) loc σ P := by
  intro A fr env L ρ s Q hA hact hrel hQ
  refine Assign_Tuple (h A fr env L ρ s _ hA hact hrel ?_) (hs env) (hw env)
  rintro ρ₁ v vv _ σ₁ h₁ t₁ S₁ R₁ rel₁ ⟨rfl, hP₁⟩
  refine hP₁ A fr env L ρ₁ vv _ _ hA (hact.mono S₁.pre) rel₁ R₁ ?_
  intro ρ₂ loc₂ σ₂ h₂ t₂ S₂ rel₂ hP₂
  exact hQ ρ₂ .next _ loc₂ σ₂ h₂ t₂ (S₁.trans S₂) rfl rel₂ hP₂
theorem WS.assignSwap {x y : Str} {px py p pos : Pos} {k : Nat} {e : Expr} {P : MF → Loc → List MO → Prop} (h : WE G n cx e loc σ fun v σ₁ => ∃ a b j, v = .obj j ∧ σ₁[j]? = some (.tup [a, b]) ∧ WN G n cx y b loc σ₁ fun l σ₂ => WN G n cx x a l σ₂ fun l σ₃ => P .next l σ₃)
    (hs : ∀ env, swapsWithSole [.Tuple [.Name x px, .Name y py] k p] e pos.line env = pure false := by intro _; rfl)
    (hw : ∀ env ρ L, Act cx ρ L env → swappedStores [.Tuple [.Name x px, .Name y py] k p] e env = pure (some [x, y])) : WS G n cx (.Assign [.Tuple [.Name x px, .Name y py] k p] e pos) loc σ P := by
  intro A fr env L ρ s Q hA hact hrel hQ
  refine Assign_Tuple_swapped (h A fr env L ρ s _ hA hact hrel ?_) (hs env) (hw env ρ L hact)
  rintro ρ₁ v vv _ σ₁ h₁ t₁ S₁ R₁ rel₁ ⟨rfl, a, b, j, rfl, hj, hP₁⟩
  refine unpackItems_any (xs := [a, b]) (Src.tup hj) hj ⟨j, rfl, .inr ⟨_, hj⟩⟩ hA rel₁ R₁ fun vs h₂ t₂ rvs k₂ => ?_
  obtain ⟨ua, ub, rfl, ra, rb⟩ := two rvs
  have S₂ := S₁.trans (.ext k₂)
  show wpAny _ A (do holding [ua] (bindName env y ub); (do holding [] (bindName env x ua); pure ())) _ NoE _
  refine wpAny_bind (wpAny_holding (wpAny_bindName (hP₁ A fr env L ρ₁ ub _ _ hA (hact.mono S₂.pre) (rel₁.ext k₂) rb ?_)))
  intro loc₃ σ₃ h₃ t₃ S₃ rel₃ hP₃
  refine wpAny_bind (wpAny_holding (wpAny_bindName (hP₃ A fr env L ρ₁ ua _ _ hA (hact.mono S₂.pre) rel₃ ra ?_)))
  intro loc₄ σ₄ h₄ t₄ S₄ rel₄ hP₄
  exact wpAny_pure (hQ ρ₁ .next _ loc₄ σ₄ h₄ t₄ (S₂.trans (S₃.trans S₄)) rfl rel₄ hP₄)

theorem Src.ascii {l : List Nat} (hl : ∀ c ∈ l, c < 128) : Src G n (.str (S l)) (l.map fun c => .str (S [c])) (fun _ => True) σ := by
  intro A fr L ρ loc u s Q hA hrel hu hQ
  obtain ⟨t, rfl⟩ := hu
  refine wpAny_pyIter_ascii (by show l.toArray.all _ = true; simp; exact hl) ?_
  refine hQ s.heap.objs.size
    { st := fun i ρ h => h.IsStrIter s.heap.objs.size "str_ascii_iterator" (S l) t i
      live := fun ⟨o, e, _⟩ => ⟨o, e⟩
      keep := fun ⟨o, e, r⟩ _ k => ⟨o, k _ e, r⟩
      next := ?_
      done := ?_
      self := ?_
      plain := fun t v ⟨o, e, hc, _⟩ hQ => letGo_fields t v e hc (by decide) hQ } _ s.toks (by
    cases e : s.heap.get? s.heap.objs.size with
    | none => rfl
    | some o => exact absurd (Heap.lt_size e) (Nat.lt_irrefl _)) (fun b o e => Heap.get?_push_of_some _ e) ⟨_, Heap.get?_push_size _ rfl, rfl, rfl⟩
  · intro A fr L ρ loc σ s Q i x hA hrel hoff hok st hx hQ
    rw [List.getElem?_map, Option.map_eq_some_iff] at hx
    obtain ⟨c, hc, rfl⟩ := hx
    refine wpAny_pyNext_ascii_item st (c := c) (by show l.toArray[i]? = _; simpa using hc) fun h' st' hs => ?_
    exact hQ _ h' _ ⟨_, rfl⟩ st' fun b o hb e => (hs.2 b hb).trans e
  · intro A fr L ρ loc σ s Q i hA hrel hoff hok st hx hQ
    refine wpAny_pyNext_ascii_end hA.handled st ?_ fun h' he => hQ h' s.toks he
    show l.toArray[i]? = none
    simpa using hx
  · intro A i ρ s Q st hQ
    refine wpAny_pyIter_slot st.typeIs F.slot_str_ascii_iterator_iter (wpAny_call_entry F.slot_str_ascii_iterator_iter st.typeIs F.entry_str_ascii_iterator_iter ?_ (F.args_str_ascii_iterator_iter_1 _))
    show wpAny _ _ (PySem.ret (.ref _)) _ _ s
    exact wpAny_pure ⟨_, rfl, "str_ascii_iterator", _, st.typeIs, F.slot_str_ascii_iterator_next.lookup, hQ⟩

theorem S_subAt0 (l m : List Nat) : (decide (0 + (S m).length ≤ (S l).length) && Builtin.Str.subAt (S l) (S m) 0) = m.isPrefixOf l := by
  rw [PySem.StrLaws.subAt_eq, S_len, S_len]
  show (decide _ && ((l.toArray.toList.drop 0).take m.length == m.toArray.toList)) = _
  simp only [List.drop_zero, Nat.zero_add]
  rw [Bool.eq_iff_iff]
  simp only [Bool.and_eq_true, decide_eq_true_eq, beq_iff_eq, List.isPrefixOf_iff_prefix]
  constructor
  · rintro ⟨_, h⟩
    exact List.prefix_iff_eq_take.mpr h.symm
  · intro h
    exact ⟨h.length_le, (List.prefix_iff_eq_take.mp h).symm⟩
theorem OCall.startswith {l m : List Nat} (h : P (.bool (m.isPrefixOf l)) σ) : OCall G n (.top (.builtin "str.startswith")) [.str (S l), .str (S m)] σ P := by
  intro A fr L ρ loc us s Q hA hrel hus hQ
  obtain ⟨f, u, w, rfl, hf, ⟨t, rfl⟩, ⟨t', rfl⟩⟩ := three hus
  cases hf
  refine call_gives F.slot_str_startswith (typeIs_str _ _ _) F.entry_str_startswith (F.args_str_startswith_2 _ _) (gives_str_startswith _ _ _ _) ?_
  rw [S_subAt0]
  exact hQ ρ (.bool (m.isPrefixOf l)) _ σ s.heap s.toks .refl rfl hrel h
theorem OCall.find4 {x y : Str} {i j : Nat} (hj : j ≤ x.length) (h : P (.int (match Builtin.Str.occurrences x y i j 1 with | k :: _ => (k : Int) | [] => -1)) σ) : OCall G n (.top (.builtin "str.find")) [.str x, .str y, .int i, .int j] σ P := by
  intro A fr L ρ loc us s Q hA hrel hus hQ
  obtain ⟨f, u, v, w, z, rfl, hf, ⟨t, rfl⟩, ⟨t', rfl⟩, ⟨t₃, rfl⟩, t₄, rfl⟩ := five hus
  cases hf
  refine call_gives F.slot_str_find (typeIs_str _ _ _) F.entry_str_find (F.args_str_find_4 _ _ _ _) (gives_find4 x y i j t t' t₃ t₄ hj) ?_
  exact hQ ρ (.int (match Builtin.Str.occurrences x y i j 1 with | k :: _ => (k : Int) | [] => -1)) _ σ s.heap _ .refl ⟨_, rfl⟩ hrel h
end
end Mine

namespace Mine

section
variable {G : Gl} {n : Nat} {cx : Cx} {loc : Loc} {σ : List MO} {P : MV → List MO → Prop} {PB : Bool → List MO → Prop}

theorem WS.while_ {t : Expr} {body : List Stmt} {pos : Pos} {P : MF → Loc → List MO → Prop} (J : Nat → Loc → List MO → Prop)
    (turn : ∀ m loc σ, J m loc σ → WB G n cx t loc σ fun b σ₁ => (b = true → WX G n cx body loc σ₁ fun f l σ₂ => match f with
        | .next | .cont => ∃ m', m' < m ∧ J m' l σ₂
        | .brk => P .next l σ₂
        | .ret v => P (.ret v) l σ₂) ∧ (b = false → P .next loc σ₁))
    (m : Nat) (h : J m loc σ) : WS G n cx (.While t body [] pos) loc σ P := by
  intro A fr env L ρ s Q hA hact hrel hQ
  refine wpAny_While (codeAny_whileLoop (fun j s' => ∃ ρ' loc' σ' h' tk', s' = { s with heap := h', toks := tk' } ∧ Step fr ρ ρ' L s.heap h' ∧ Rel G fr L ρ' loc' σ' h' ∧ J j loc' σ') ?_ m ⟨ρ, loc, σ, s.heap, s.toks, rfl, .refl, hrel, h⟩)
  rintro j _ ⟨ρ', loc', σ', h', tk', rfl, S', rel', hJ⟩
  refine noted_no (turn j loc' σ' hJ A fr env L ρ' _ _ hA (hact.mono S'.pre) rel' ?_)
  rintro ρ₁ b vb _ σ₁ h₁ t₁ S₁ R₁ rel₁ ⟨rfl, hP₁⟩
  cases R₁
  have Sa := S'.trans S₁
  cases b with
  | false =>
    rw [if_neg (by decide)]
    exact noted_no (wpAny_execs_nil (hQ ρ₁ .next _ _ σ₁ h₁ t₁ Sa rfl rel₁ (hP₁.2 rfl)))
  | true =>
    rw [if_pos rfl]
    refine noted_no (hP₁.1 rfl A fr env L ρ₁ _ _ hA (hact.mono Sa.pre) rel₁ ?_)
    rintro ρ₂ f vf loc₂ σ₂ h₂ t₂ S₂ R₂ rel₂ hP₂
    have Sb := Sa.trans S₂
    cases f with
    | next => cases R₂; obtain ⟨m', hm, hj⟩ := hP₂; exact ⟨m', hm, ρ₂, loc₂, σ₂, h₂, t₂, rfl, Sb, rel₂, hj⟩
    | cont => cases R₂; obtain ⟨m', hm, hj⟩ := hP₂; exact ⟨m', hm, ρ₂, loc₂, σ₂, h₂, t₂, rfl, Sb, rel₂, hj⟩
    | brk => cases R₂; exact hQ ρ₂ .next _ loc₂ σ₂ h₂ t₂ Sb rfl rel₂ hP₂
    | ret v => obtain ⟨u, rfl, r⟩ := R₂; exact hQ ρ₂ (.ret v) _ loc₂ σ₂ h₂ t₂ Sb ⟨u, rfl, r⟩ rel₂ hP₂

theorem ints_of {ρ : List Addr} : ∀ {ns : List Int} {vs : List Value}, RVs ρ (ns.map .int) vs → IntsAre vs ns
  | [], [], _ => .nil
  | _ :: _, _ :: _, ⟨⟨t, e⟩, r⟩ => by rw [e]; exact .cons _ t (ints_of r)
  | [], _ :: _, r => r.elim
  | _ :: _, [], r => r.elim
theorem OC.eqL {i j : Nat} {xs ys : List Int} (hi : σ[i]? = some (.list (xs.map .int))) (hj : σ[j]? = some (.list (ys.map .int))) (hn : 5 ≤ n) (h : P (.bool (decide (xs = ys))) σ) : OCmp G n .Eq (.obj i) (.obj j) σ P := by
  intro A fr L ρ loc us s Q hA hrel hus hQ
  obtain ⟨u, v, rfl, hu, hv⟩ := two hus
  obtain ⟨a, vs, m, rfl, _, ha, hvs⟩ := hrel.atList hu hi
  obtain ⟨b, ws, k, rfl, _, hb, hws⟩ := hrel.atList hv hj
  refine eq_intsK (vs := vs) (us := ws) ⟨_, ha, rfl, m, rfl⟩ (ints_of hvs) ⟨_, hb, rfl, k, rfl⟩ (ints_of hws) ?_ (hQ ρ (.bool (decide (xs = ys))) _ σ s.heap s.toks .refl rfl hrel h)
  have := hA.units; lia
theorem OC.neL {i j : Nat} {xs ys : List Int} (hi : σ[i]? = some (.list (xs.map .int))) (hj : σ[j]? = some (.list (ys.map .int))) (hn : 5 ≤ n) (h : P (.bool (!decide (xs = ys))) σ) : OCmp G n .NotEq (.obj i) (.obj j) σ P := by
  intro A fr L ρ loc us s Q hA hrel hus hQ
  obtain ⟨u, v, rfl, hu, hv⟩ := two hus
  obtain ⟨a, vs, m, rfl, _, ha, hvs⟩ := hrel.atList hu hi
  obtain ⟨b, ws, k, rfl, _, hb, hws⟩ := hrel.atList hv hj
  refine ne_intsK (vs := vs) (us := ws) ⟨_, ha, rfl, m, rfl⟩ (ints_of hvs) ⟨_, hb, rfl, k, rfl⟩ (ints_of hws) ?_ (hQ ρ (.bool (!decide (xs = ys))) _ σ s.heap s.toks .refl rfl hrel h)
  have := hA.units; lia

noncomputable def LI (σ : List MO) (k : Nat) (ns : List Int) : Prop := σ[k]? = some (.list (ns.map .int))
inductive LIs (σ : List MO) : List Nat → List (List Int) → Prop
  | nil : LIs σ [] []
  | cons {k ns ks nss} : LI σ k ns → LIs σ ks nss → LIs σ (k :: ks) (ns :: nss)
theorem LIs.length {ks : List Nat} {nss : List (List Int)} (h : LIs σ ks nss) : ks.length = nss.length := by induction h <;> simp_all
theorem LIs.get {ks : List Nat} {nss : List (List Int)} (h : LIs σ ks nss) : ∀ {i : Nat} {k : Nat}, ks[i]? = some k → ∃ ns, nss[i]? = some ns ∧ LI σ k ns := by
  induction h with
  | nil => intro i k e; cases e
  | cons h1 _ ih =>
    intro i k e
    cases i with
    | zero => cases e; exact ⟨_, rfl, h1⟩
    | succ i => exact ih e
theorem LIs.get' {ks : List Nat} {nss : List (List Int)} (h : LIs σ ks nss) : ∀ {i : Nat} {ns : List Int}, nss[i]? = some ns → ∃ k, ks[i]? = some k ∧ LI σ k ns := by
  induction h with
  | nil => intro i k e; cases e
  | cons h1 _ ih =>
    intro i k e
    cases i with
    | zero => cases e; exact ⟨_, rfl, h1⟩
    | succ i => exact ih e
theorem LIs.snoc {ks : List Nat} {nss : List (List Int)} (h : LIs σ ks nss) {k : Nat} {ns : List Int} (hk : LI σ k ns) : LIs σ (ks ++ [k]) (nss ++ [ns]) := by
  induction h with
  | nil => exact .cons hk .nil
  | cons h1 _ ih => exact .cons h1 ih
theorem LIs.mono {σ' : List MO} {ks : List Nat} {nss : List (List Int)} (h : LIs σ ks nss) (hs : ∀ k ∈ ks, ∀ ns, LI σ k ns → LI σ' k ns) : LIs σ' ks nss := by
  induction h with
  | nil => exact .nil
  | cons h1 _ ih => exact .cons (hs _ (by simp) _ h1) (ih fun k hk => hs k (by simp [hk]))

theorem reads_LI {fr : List Env} {L : Addr} {ρ : List Addr} {h : Heap} (hrel : Rel G fr L ρ loc σ h) {k : Nat} {ns : List Int} (hk : LI σ k ns) {u : Value} (hu : RV ρ (.obj k) u) : ∃ as, Reads h u (.list (ns.map PyData.int)) as := by
  obtain ⟨a, vs, m, rfl, _, ha, hvs⟩ := hrel.atList hu hk
  exact ⟨_, reads_of_ints (vs := vs) ⟨_, ha, rfl, m, rfl⟩ (ints_of hvs)⟩
theorem reads_LIs {fr : List Env} {L : Addr} {ρ : List Addr} {h : Heap} (hrel : Rel G fr L ρ loc σ h) : ∀ {ks : List Nat} {nss : List (List Int)}, LIs σ ks nss → ∀ {vs : List Value}, RVs ρ (ks.map .obj) vs →
    ∃ as, ReadsAll h vs (nss.map fun ns => .list (ns.map PyData.int)) as
  | _, _, .nil, [], _ => ⟨_, .nil⟩
  | _, _, .cons h1 h2, v :: vs, ⟨r1, r2⟩ => by
    obtain ⟨as, e1⟩ := reads_LI hrel h1 r1
    obtain ⟨bs, e2⟩ := reads_LIs hrel h2 r2
    exact ⟨_, .cons e1 e2⟩
  | _, _, .nil, _ :: _, r => r.elim
  | _, _, .cons _ _, [], r => r.elim
theorem canLay_nests : ∀ nss : List (List Int), PyData.canLayAll0 (nss.map fun ns => .list (ns.map PyData.int)) = true
  | [] => by simp [PyData.canLayAll0]
  | n :: r => by simp [PyData.canLayAll0, PyData.canLay0, canLayAll0_ints n, canLay_nests r]
theorem depth_nests : ∀ nss : List (List Int), PyData.depthAll (nss.map fun ns => .list (ns.map PyData.int)) ≤ 3
  | [] => by simp [PyData.depthAll]
  | n :: r => by
    have := depth_nests r
    have h1 := W.depthAll_ints n
    simp only [List.map_cons, PyData.depthAll, PyData.depth]
    lia
theorem shaped_nests (nss : List (List Int)) : SeqAt.shaped (.list (nss.map fun ns => .list (ns.map PyData.int))) = true := by
  have h1 := depth_nests nss
  have h2 : PyData.depth (.list (nss.map fun ns => .list (ns.map PyData.int))) ≤ 64 := by simp only [PyData.depth]; lia
  show (PyData.canLay0 (.list (nss.map fun ns => .list (ns.map PyData.int))) && decide (PyData.depth (.list (nss.map fun ns => .list (ns.map PyData.int))) ≤ 64)) = true
  rw [Bool.and_eq_true]
  exact ⟨by simp only [PyData.canLay0]; exact canLay_nests nss, decide_eq_true h2⟩
theorem noMix_nests : ∀ xs ys : List (List Int), SeqAt.noMixAll (xs.map fun ns => .list (ns.map PyData.int)) (ys.map fun ns => .list (ns.map PyData.int)) = true
  | [], [] => by simp [SeqAt.noMixAll]
  | [], _ :: _ => by simp [SeqAt.noMixAll]
  | _ :: _, [] => by simp [SeqAt.noMixAll]
  | x :: r, y :: q => by simp [SeqAt.noMixAll, SeqAt.noMix, noMix_ints x y, noMix_nests r q]
theorem same_nests : ∀ xs ys : List (List Int), PySem.Spec.sameAll (xs.map fun ns => .list (ns.map PyData.int)) (ys.map fun ns => .list (ns.map PyData.int)) = decide (xs = ys)
  | [], [] => by simp [PySem.Spec.sameAll]
  | [], _ :: _ => by simp [PySem.Spec.sameAll]
  | _ :: _, [] => by simp [PySem.Spec.sameAll]
  | n :: r, k :: q => by
    simp only [List.map_cons, PySem.Spec.sameAll, PySem.Spec.same, same_nests r q, same_ints]
    by_cases h : n = k <;> simp [h]
theorem OC.neLL {i j : Nat} {ks js : List Nat} {xs ys : List (List Int)} (hi : σ[i]? = some (.list (ks.map .obj))) (hx : LIs σ ks xs) (hj : σ[j]? = some (.list (js.map .obj))) (hy : LIs σ js ys) (hn : 5 ≤ n) (h : P (.bool (!decide (xs = ys))) σ) : OCmp G n .NotEq (.obj i) (.obj j) σ P := by
  intro A fr L ρ loc us s Q hA hrel hus hQ
  obtain ⟨u, v, rfl, hu, hv⟩ := two hus
  obtain ⟨a, vs, m, rfl, _, ha, hvs⟩ := hrel.atList hu hi
  obtain ⟨b, ws, k, rfl, _, hb, hws⟩ := hrel.atList hv hj
  obtain ⟨as, e1⟩ := reads_LIs hrel hx hvs
  obtain ⟨bs, e2⟩ := reads_LIs hrel hy hws
  refine ne_dataH_same (da := .list (xs.map fun ns => .list (ns.map PyData.int))) (db := .list (ys.map fun ns => .list (ns.map PyData.int))) (.list ha rfl rfl (by simpa using e1)) (.list hb rfl rfl (by simpa using e2)) (shaped_nests xs) (shaped_nests ys) ?_ (by simp only [SeqAt.noMix]; exact noMix_nests xs ys) ?_
  · have := hA.units; lia
  · simp only [PySem.Spec.same]
    rw [same_nests]
    exact hQ ρ (.bool (!decide (xs = ys))) _ σ s.heap s.toks .refl rfl hrel h

theorem intItems_of {ρ : List Addr} : ∀ {ns : List Int} {vs : List Value}, RVs ρ (ns.map .int) vs → ∃ l : List (Int × Tok), vs.toArray = intItems l.toArray ∧ l.map (·.1) = ns
  | [], [], _ => ⟨[], by simp [intItems], rfl⟩
  | n :: ns, v :: vs, ⟨⟨t, e⟩, r⟩ => by
    obtain ⟨l, e1, e2⟩ := intItems_of r
    refine ⟨(n, t) :: l, ?_, by simp [e2]⟩
    simp only [intItems, List.map_toArray] at e1 ⊢
    simp only [List.map_cons, Array.mk.injEq] at e1 ⊢
    rw [e1, e]
  | [], _ :: _, r => r.elim
  | _ :: _, [], r => r.elim
theorem preSum_take (l : List (Int × Tok)) : ∀ k, k ≤ l.length → preSum (numAt l.toArray) k = ((l.map (·.1)).take k).sum
  | 0, _ => by simp [preSum]
  | k + 1, h => by
    have ih := preSum_take l k (by lia)
    have hk : k < l.length := by lia
    rw [List.take_add_one]
    simp only [preSum, ih, List.sum_append, numAt]
    simp [hk]
theorem OCall.sum {k : Nat} {ns : List Int} (hk : σ[k]? = some (.list (ns.map .int))) (h : P (.int ns.sum) σ) : OCall G n (.top (.builtin "sum")) [.obj k] σ P := by
  intro A fr L ρ loc us s Q hA hrel hus hQ
  obtain ⟨f, u, rfl, hf, hu⟩ := two hus
  cases hf
  obtain ⟨a, vs, m, rfl, ea, ha, hvs⟩ := hrel.atList hu hk
  obtain ⟨l, e1, rfl⟩ := intItems_of hvs
  refine sum_intListG (xs := l.toArray) hA.handled ⟨_, ha, rfl, m, by rw [← e1]⟩ fun h' tk t' kp => ?_
  have : preSum (numAt l.toArray) l.toArray.size = (l.map (·.1)).sum := by
    rw [List.size_toArray, preSum_take l _ (Nat.le_refl _), List.take_of_length_le (by simp)]
  rw [this]
  exact hQ ρ (.int (l.map (·.1)).sum) _ σ h' tk (.ext kp) ⟨_, rfl⟩ (hrel.ext kp) h

/-! bits -/
variable {x y : Int}
theorem OB.and (h : P (.int (Builtin.bitAnd x y)) σ) : OBin G n .BitAnd (.int x) (.int y) σ P := .ints (.int (Builtin.bitAnd x y)) (fun _ _ _ _ _ _ q => and_int (q _ _ ⟨_, rfl⟩)) h
theorem OI.or (h : P (.int (Builtin.bitOr x y)) σ) : OInp G n .BitOr (.int x) (.int y) σ P := .ints (.int (Builtin.bitOr x y)) (fun _ _ _ _ _ _ q => ior_int (q _ _ ⟨_, rfl⟩)) h
theorem OI.shl (hy : 0 ≤ y) (hsz : (Builtin.Int.intBits x : Int) + y ≤ 2 ^ 27) (h : P (.int (x * 2 ^ y.toNat)) σ) : OInp G n .LShift (.int x) (.int y) σ P := .ints (.int (x * 2 ^ y.toNat)) (fun _ _ _ _ _ _ q => ilshift_int hy hsz (q _ _ ⟨_, rfl⟩)) h
end
end Mine

namespace Mine

section
variable {G : Gl} {n : Nat} {cx : Cx} {loc : Loc} {σ : List MO} {P : MV → List MO → Prop} {PB : Bool → List MO → Prop}

theorem O.flts {α β : Type} {RR : List Addr → β → α → Prop} {x y : UInt64} {t : List Value → Sem α} {P : β → List MO → Prop} (b : β)
    (h : ∀ (A : Around) ρ tx ty (s : Shared) (Q : α → Shared → Prop), (∀ a tk', RR ρ b a → Q a { s with toks := tk' }) → wpAny (model G.prog G.w) A (t [.float x tx, .float y ty]) Q NoE s) (hP : P b σ) : O G n RR [.flt x, .flt y] t σ P :=
  .now2 b (fun A _ ρ u v s Q _ hu hv hq => by obtain ⟨tu, rfl⟩ := hu; obtain ⟨tv, rfl⟩ := hv; exact h A ρ tu tv s Q hq) hP
theorem O.fltInt {α β : Type} {RR : List Addr → β → α → Prop} {x : UInt64} {y : Int} {t : List Value → Sem α} {P : β → List MO → Prop} (b : β)
    (h : ∀ (A : Around) ρ tx ty (s : Shared) (Q : α → Shared → Prop), (∀ a tk', RR ρ b a → Q a { s with toks := tk' }) → wpAny (model G.prog G.w) A (t [.float x tx, .int y ty]) Q NoE s) (hP : P b σ) : O G n RR [.flt x, .int y] t σ P :=
  .now2 b (fun A _ ρ u v s Q _ hu hv hq => by obtain ⟨tu, rfl⟩ := hu; obtain ⟨tv, rfl⟩ := hv; exact h A ρ tu tv s Q hq) hP
theorem O.intFlt {α β : Type} {RR : List Addr → β → α → Prop} {x : Int} {y : UInt64} {t : List Value → Sem α} {P : β → List MO → Prop} (b : β)
    (h : ∀ (A : Around) ρ tx ty (s : Shared) (Q : α → Shared → Prop), (∀ a tk', RR ρ b a → Q a { s with toks := tk' }) → wpAny (model G.prog G.w) A (t [.int x tx, .float y ty]) Q NoE s) (hP : P b σ) : O G n RR [.int x, .flt y] t σ P :=
  .now2 b (fun A _ ρ u v s Q _ hu hv hq => by obtain ⟨tu, rfl⟩ := hu; obtain ⟨tv, rfl⟩ := hv; exact h A ρ tu tv s Q hq) hP

variable {x y : UInt64} {i : Int}
theorem OB.addF (h : P (.flt (Float64.add x y)) σ) : OBin G n .Add (.flt x) (.flt y) σ P := .flts (.flt (Float64.add x y)) (fun _ _ _ _ _ _ q => add_float (q _ _ ⟨_, rfl⟩)) h
theorem OB.subF (h : P (.flt (Float64.sub x y)) σ) : OBin G n .Sub (.flt x) (.flt y) σ P := .flts (.flt (Float64.sub x y)) (fun _ _ _ _ _ _ q => sub_float (q _ _ ⟨_, rfl⟩)) h
theorem OB.mulF (h : P (.flt (Float64.mul x y)) σ) : OBin G n .Mult (.flt x) (.flt y) σ P := .flts (.flt (Float64.mul x y)) (fun _ _ _ _ _ _ q => mul_float (q _ _ ⟨_, rfl⟩)) h
theorem OB.divF (hz : Float64.isZero y = false) (h : P (.flt (Float64.div x y)) σ) : OBin G n .Div (.flt x) (.flt y) σ P := .flts (.flt (Float64.div x y)) (fun _ _ _ _ _ _ q => AutoFloatOps.truediv_1 (by rw [hz]; decide) (q _ _ ⟨_, rfl⟩)) h
theorem OB.modF (hz : Float64.isZero y = false) (h : P (.flt (Float64.divmod x y).snd) σ) : OBin G n .Mod (.flt x) (.flt y) σ P := .flts (.flt (Float64.divmod x y).snd) (fun _ _ _ _ _ _ q => AutoFloatOps.mod_1 (by rw [hz]; decide) (q _ _ ⟨_, rfl⟩)) h
theorem OB.mulIF (hi : i.natAbs < 1000000) (h : P (.flt (Float64.mul (Float64.ofInt i) x)) σ) : OBin G n .Mult (.int i) (.flt x) σ P := .intFlt (.flt (Float64.mul (Float64.ofInt i) x)) (fun _ _ _ _ _ _ q => mul_if_fits (Nat.lt_of_lt_of_le hi (by decide +kernel)) (q _ _ ⟨_, rfl⟩)) h
theorem OB.mulFI (hi : i.natAbs < 10000000) (h : P (.flt (Float64.mul x (Float64.ofInt i))) σ) : OBin G n .Mult (.flt x) (.int i) σ P := .fltInt (.flt (Float64.mul x (Float64.ofInt i))) (fun _ _ _ _ _ _ q => mul_fi_fits (Nat.lt_of_lt_of_le hi (by decide +kernel)) (q _ _ ⟨_, rfl⟩)) h
theorem OB.subFI (hi : i.natAbs < 1000000) (h : P (.flt (Float64.sub x (Float64.ofInt i))) σ) : OBin G n .Sub (.flt x) (.int i) σ P := .fltInt (.flt (Float64.sub x (Float64.ofInt i))) (fun _ _ _ _ _ _ q => sub_fi_fits (Nat.lt_of_lt_of_le hi (by decide +kernel)) (q _ _ ⟨_, rfl⟩)) h
theorem OB.divI {j : Int} (hj : (j == 0) = false) (hf : Float64.isInf (Float64.ofFrac (decide (i < 0) != decide (j < 0)) i.natAbs j.natAbs) = false) (h : P (.flt (Float64.ofFrac (decide (i < 0) != decide (j < 0)) i.natAbs j.natAbs)) σ) : OBin G n .Div (.int i) (.int j) σ P :=
  .ints (.flt (Float64.ofFrac (decide (i < 0) != decide (j < 0)) i.natAbs j.natAbs)) (fun _ _ _ _ _ _ q => AutoIntOps.truediv_2 (by rw [hj]; decide) (by rw [hf]; decide) (q _ _ ⟨_, rfl⟩)) h
theorem OC.eqF (h : P (.bool (Float64.cmp x y == some Ordering.eq)) σ) : OCmp G n .Eq (.flt x) (.flt y) σ P := .flts (.bool (Float64.cmp x y == some Ordering.eq)) (fun _ _ _ _ _ _ q => AutoFloatOps.eq_0 (q _ _ rfl)) h
theorem OC.neF (h : P (.bool (Float64.cmp x y != some Ordering.eq)) σ) : OCmp G n .NotEq (.flt x) (.flt y) σ P := .flts (.bool (Float64.cmp x y != some Ordering.eq)) (fun _ _ _ _ _ _ q => AutoFloatOps.ne_0 (q _ _ rfl)) h
theorem OC.gtFI (h : P (.bool (Float64.cmpInt x i == some Ordering.gt)) σ) : OCmp G n .Gt (.flt x) (.int i) σ P := .fltInt (.bool (Float64.cmpInt x i == some Ordering.gt)) (fun _ _ _ _ _ _ q => gt_fi (q _ _ rfl)) h
theorem OCall.abs (h : P (.flt (Float64.abs x)) σ) : OCall G n (.top (.builtin "abs")) [.flt x] σ P :=
  .now2 (.flt (Float64.abs x)) (fun _ _ _ u v s Q _ hu hv q => by
    cases hu; obtain ⟨t, rfl⟩ := hv
    exact Flt.call_abs_float (q _ _ ⟨_, rfl⟩)) h
theorem OCall.int {sg : Bool} {m : Nat} {e : Int} (hd : Float64.decode x = .fin sg m e) (h : P (.int (Float64.truncOf sg m e)) σ) : OCall G n (.top (.type "int")) [.flt x] σ P :=
  .now2 (.int (Float64.truncOf sg m e)) (fun _ _ _ u v s Q _ hu hv q => by
    cases hu; obtain ⟨t, rfl⟩ := hv
    exact call_int_float hd (q _ _ ⟨_, rfl⟩)) h

noncomputable def ltF (x y : UInt64) : Bool := Float64.cmp x y == some .lt
noncomputable def max3 (a b c : UInt64) : UInt64 := let m := if ltF a b then b else a; if ltF m c then c else m
noncomputable def min3 (a b c : UInt64) : UInt64 := let m := if ltF b a then b else a; if ltF c m then c else m

theorem kept3 {s : Shared} {h' : Heap} {o₁ o₂ : Obj} {I : Addr} (hI : I = s.heap.objs.size + 1) (hk : ∀ b o, b ∉ [I] → ((s.heap.push o₁).push o₂).get? b = some o → h'.get? b = some o) : ∀ b o, s.heap.get? b = some o → h'.get? b = some o := fun b o e => by
  refine hk b o (fun hm => ?_) (Heap.get?_push_of_some _ (Heap.get?_push_of_some _ e))
  rcases List.mem_cons.mp hm with e1 | hm
  · have := Heap.lt_size e; rw [e1, hI] at this; exact Nat.lt_irrefl _ (Nat.lt_of_succ_lt this)
  · cases hm

theorem max3_eq (a b c : UInt64) : max3 a b c = if ltF a b then (if ltF b c then c else b) else if ltF a c then c else a := by unfold max3; cases ltF a b <;> rfl
theorem min3_eq (a b c : UInt64) : min3 a b c = if ltF b a then (if ltF c b then c else b) else if ltF c a then c else a := by unfold min3; cases ltF b a <;> rfl
theorem best_of {bt : Nat → Nat → Bool} {b1 b2 b3 : Bool} {a b c : UInt64} {t u v : Tok} {v' : Value} (h1 : bt 1 0 = b1) (h2 : bt 2 1 = b2) (h3 : bt 2 0 = b3) (hP : #[Value.float a t, .float b u, .float c v][argBest bt 2]? = some v') :
    ∃ t', v' = .float (if b1 then (if b2 then c else b) else if b3 then c else a) t' := by
  have e : argBest bt 2 = if b1 then (if b2 then 2 else 1) else if b3 then 2 else 0 := by
    subst h1 h2 h3
    show (if bt 2 (if bt 1 0 then 1 else 0) then 2 else if bt 1 0 then 1 else 0) = _
    cases bt 1 0 <;> rfl
  rw [e] at hP
  clear e h1 h2 h3
  cases b1 <;> cases b2 <;> cases b3 <;> cases hP <;> exact ⟨_, rfl⟩
theorem max3_call {prog : Program} {w : World} {A : Around} {E : Value → Shared → Prop} {s : Shared} {Q : Value → Shared → Prop} {a b c : UInt64} {t u v : Tok} (hh : A.handled = none)
    (h : ∀ h' tk t', (∀ c o, s.heap.get? c = some o → h'.get? c = some o) → Q (.float (max3 a b c) t') { s with heap := h', toks := tk }) : wpAny (model prog w) A (call (.builtin "max") [.float a t, .float b u, .float c v]) Q E s := by
  have hT : (s.heap.push { cls := .type "tuple", data := .seq #[.float a t, .float b u, .float c v] }).IsTuple s.heap.objs.size #[.float a t, .float b u, .float c v] := ⟨_, Heap.get?_push_size _ rfl, rfl, 0, rfl⟩
  refine call_max_three (wpAny_pyIter_tuple hT ?_)
  have hsz : (s.heap.push { cls := .type "tuple", data := .seq #[.float a t, .float b u, .float c v] }).objs.size = s.heap.objs.size + 1 := Heap.size_push ..
  refine ⟨_, [_, s.heap.objs.size], [_], _, _, _, _, rfl, Walks.tuple (A := A.in1) hh _ s.heap.objs.size (by rw [hsz]; exact Nat.ne_of_lt (Nat.lt_succ_self _)) #[.float a t, .float b u, .float c v],
    ⟨⟨_, Heap.get?_push_size _ rfl, rfl, rfl⟩, hT.push _⟩, fun c hc => ?_, by simp, Flt.cmpOf_gt #[.float a t, .float b u, .float c v] (by
      intro x hx; simp at hx; rcases hx with rfl | rfl | rfl <;> exact .float _ _), fun v' h' tk hP hk => ?_⟩
  · show c < ((s.heap.push _).push _).objs.size
    rw [Heap.size_push, hsz]
    rcases List.mem_cons.mp hc with rfl | hc
    · rw [hsz]; exact Nat.lt_succ_self _
    · rcases List.mem_cons.mp hc with rfl | hc
      · exact Nat.lt_succ_of_lt (Nat.lt_succ_self _)
      · cases hc
  · have hold := kept3 (s := s) hsz hk
    have hv : ∃ t', v' = .float (max3 a b c) t' := by
      rw [max3_eq]
      exact best_of (b1 := ltF a b) (b2 := ltF b c) (b3 := ltF a c) rfl rfl rfl hP
    obtain ⟨t', rfl⟩ := hv
    exact h h' tk t' hold
theorem min3_call {prog : Program} {w : World} {A : Around} {E : Value → Shared → Prop} {s : Shared} {Q : Value → Shared → Prop} {a b c : UInt64} {t u v : Tok} (hh : A.handled = none)
    (h : ∀ h' tk t', (∀ c o, s.heap.get? c = some o → h'.get? c = some o) → Q (.float (min3 a b c) t') { s with heap := h', toks := tk }) : wpAny (model prog w) A (call (.builtin "min") [.float a t, .float b u, .float c v]) Q E s := by
  have hT : (s.heap.push { cls := .type "tuple", data := .seq #[.float a t, .float b u, .float c v] }).IsTuple s.heap.objs.size #[.float a t, .float b u, .float c v] := ⟨_, Heap.get?_push_size _ rfl, rfl, 0, rfl⟩
  refine call_min_three (wpAny_pyIter_tuple hT ?_)
  have hsz : (s.heap.push { cls := .type "tuple", data := .seq #[.float a t, .float b u, .float c v] }).objs.size = s.heap.objs.size + 1 := Heap.size_push ..
  refine ⟨_, [_, s.heap.objs.size], [_], _, _, _, _, rfl, Walks.tuple (A := A.in1) hh _ s.heap.objs.size (by rw [hsz]; exact Nat.ne_of_lt (Nat.lt_succ_self _)) #[.float a t, .float b u, .float c v],
    ⟨⟨_, Heap.get?_push_size _ rfl, rfl, rfl⟩, hT.push _⟩, fun c hc => ?_, by simp, Flt.cmpOf_lt #[.float a t, .float b u, .float c v] (by
      intro x hx; simp at hx; rcases hx with rfl | rfl | rfl <;> exact .float _ _), fun v' h' tk hP hk => ?_⟩
  · show c < ((s.heap.push _).push _).objs.size
    rw [Heap.size_push, hsz]
    rcases List.mem_cons.mp hc with rfl | hc
    · rw [hsz]; exact Nat.lt_succ_self _
    · rcases List.mem_cons.mp hc with rfl | hc
      · exact Nat.lt_succ_of_lt (Nat.lt_succ_self _)
      · cases hc
  · have hold := kept3 (s := s) hsz hk
    have hv : ∃ t', v' = .float (min3 a b c) t' := by
      rw [min3_eq]
      exact best_of (b1 := ltF b a) (b2 := ltF c b) (b3 := ltF c a) rfl rfl rfl hP
    obtain ⟨t', rfl⟩ := hv
    exact h h' tk t' hold
theorem OCall.max3 {a b c : UInt64} (h : P (.flt (Mine.max3 a b c)) σ) : OCall G n (.top (.builtin "max")) [.flt a, .flt b, .flt c] σ P := by
  intro A fr L ρ loc us s Q hA hrel hus hQ
  obtain ⟨f, u, v, w, rfl, hf, ⟨t, rfl⟩, ⟨t', rfl⟩, t₃, rfl⟩ := four hus
  cases hf
  exact max3_call hA.handled fun h' tk t' kp => hQ ρ (.flt (Mine.max3 a b c)) _ σ h' tk (.ext kp) ⟨_, rfl⟩ (hrel.ext kp) h
theorem OCall.min3 {a b c : UInt64} (h : P (.flt (Mine.min3 a b c)) σ) : OCall G n (.top (.builtin "min")) [.flt a, .flt b, .flt c] σ P := by
  intro A fr L ρ loc us s Q hA hrel hus hQ
  obtain ⟨f, u, v, w, rfl, hf, ⟨t, rfl⟩, ⟨t', rfl⟩, t₃, rfl⟩ := four hus
  cases hf
  exact min3_call hA.handled fun h' tk t' kp => hQ ρ (.flt (Mine.min3 a b c)) _ σ h' tk (.ext kp) ⟨_, rfl⟩ (hrel.ext kp) h

theorem floats_of {ρ : List Addr} : ∀ {ns : List UInt64} {vs : List Value}, RVs ρ (ns.map .flt) vs → Flt.FloatsAre vs ns
  | [], [], _ => .nil
  | _ :: _, _ :: _, ⟨⟨t, e⟩, r⟩ => by rw [e]; exact .cons _ t (floats_of r)
  | [], _ :: _, r => r.elim
  | _ :: _, [], r => r.elim
theorem OCall.maxL {k : Nat} {bs : List UInt64} (hk : σ[k]? = some (.list (bs.map .flt))) (hne : 0 < bs.length) (h : P (.flt (Flt.maxOfBits bs)) σ) : OCall G n (.top (.builtin "max")) [.obj k] σ P := by
  intro A fr L ρ loc us s Q hA hrel hus hQ
  obtain ⟨f, u, rfl, hf, hu⟩ := two hus
  cases hf
  obtain ⟨a, vs, m, rfl, ea, ha, hvs⟩ := hrel.atList hu hk
  have hf := floats_of hvs
  have hls : s.heap.IsList a vs.toArray := ⟨_, ha, rfl, m, rfl⟩
  refine call_max_walk (Flt.iter_list_ hls fun s₂ e st hfp hlI => ?_)
  subst e
  have W := Walks.list (prog := G.prog) (w := G.w) (A := A.in1) hA.handled _ a hlI vs.toArray
  refine ⟨_, _, _, _, _, _, fun i j => Flt.gtB (bs.getD i 0) (bs.getD j 0), rfl, W, st, hfp, by rw [Flt.size_floats hf]; exact hne, fun i j vi vj s Q E hi hj h => ?_, fun v h' tk hP hk => ?_⟩
  · obtain ⟨b, t, rfl, e1⟩ := hf.at i vi (by simpa using hi)
    obtain ⟨c, u, rfl, e2⟩ := hf.at j vj (by simpa using hj)
    simp only [List.getD_eq_getElem?_getD, e1, e2, Option.getD_some] at h
    exact AutoFloatOps.gt_0 (by rw [Flt.cmp_gt]; exact h)
  · rw [Flt.size_floats hf] at hP
    obtain ⟨b, t, rfl, e1⟩ := hf.at _ v ((List.getElem?_toArray).symm.trans hP)
    have e2 := Flt.argBest_bits Flt.gtB bs (bs.length - 1) (by lia)
    rw [List.take_of_length_le (by rw [List.length_tail]; lia)] at e2
    rw [List.getD_eq_getElem?_getD, e1, Option.getD_some] at e2
    have kp := Flt.kept_iter hk
    have := hQ ρ (.flt (Flt.maxOfBits bs)) (.float b t) σ h' tk (.ext kp) ⟨t, by rw [e2]; rfl⟩ (hrel.ext kp) h
    exact this
end
end Mine

namespace Mine

theorem pget {σ σ' : List MO} {k : Nat} {x : MO} (h : σ <+: σ') (e : σ[k]? = some x) : σ'[k]? = some x := by
  obtain ⟨t, rfl⟩ := h
  have hk : k < σ.length := (List.getElem?_eq_some_iff.mp e).1
  rw [List.getElem?_append_left hk]; exact e
theorem sget {σ σ' : List MO} {k j : Nat} {x : MO} (h : ∀ j, j ≠ k → σ'[j]? = σ[j]?) (hj : j ≠ k) (e : σ[j]? = some x) : σ'[j]? = some x := (h j hj).trans e

section
variable {G : Gl} {n : Nat} {cx : Cx} {loc : Loc} {σ : List MO} {P : MV → List MO → Prop} {PB : Bool → List MO → Prop}

noncomputable def Grown (mo : MO) (σ : List MO) (P : MV → List MO → Prop) : Prop := ∀ σ' k, σ <+: σ' → σ'[k]? = some mo → σ.length ≤ k → P (.obj k) σ'
theorem Grown.use {mo : MO} (h : Grown mo σ P) : P (.obj σ.length) (σ ++ [mo]) :=
  h _ _ (List.prefix_append _ _) (by simp) (Nat.le_refl _)
noncomputable def Turned (k : Nat) (mo : MO) (σ : List MO) (P : List MO → Prop) : Prop := ∀ σ', σ'.length = σ.length → (∀ j, j ≠ k → σ'[j]? = σ[j]?) → σ'[k]? = some mo → (∀ τ, τ <+: σ → τ.length ≤ k → τ <+: σ') → P σ'
theorem Turned.use {k : Nat} {mo m : MO} {P : List MO → Prop} (h : Turned k mo σ P) (hk : σ[k]? = some m) : P (σ.set k mo) := by
  have hlt : k < σ.length := (List.getElem?_eq_some_iff.mp hk).1
  refine h _ (by simp) (fun j hj => List.getElem?_set_ne (Ne.symm hj)) (List.getElem?_set_self hlt) fun τ ⟨t, ht⟩ hl => ?_
  subst ht
  rw [List.set_append_right _ _ hl]
  exact List.prefix_append _ _

theorem O.newList' {vs : List MV} (hl : vs.length ≤ 1000000) (h : Grown (.list vs) σ P) : O G n RV vs NewL σ P := O.newList hl h.use
theorem O.newTuple' {vs : List MV} (hl : vs.length ≤ 1000000) (h : Grown (.tup vs) σ P) : O G n RV vs NewT σ P := O.newTuple hl h.use
theorem OB.addList' {i j : Nat} {xs ys : List MV} (hi : σ[i]? = some (.list xs)) (hj : σ[j]? = some (.list ys)) (hl : xs.length + ys.length ≤ 1000000) (h : Grown (.list (xs ++ ys)) σ P) : OBin G n .Add (.obj i) (.obj j) σ P := OB.addList hi hj hl h.use
theorem OB.mulList' {i : Nat} {xs : List MV} {x : Int} (hi : σ[i]? = some (.list xs)) (hlo : -(2 ^ 63 : Int) ≤ x) (hhi : x < 2 ^ 63) (hl : xs.length * x.toNat ≤ 1000000) (h : Grown (.list (List.replicate x.toNat xs).flatten) σ P) :
    OBin G n .Mult (.obj i) (.int x) σ P := OB.mulList hi hlo hhi hl h.use
theorem OCall.range1' {b : Int} (h : Grown (.rng 0 b) σ P) : OCall G n (.top (.type "range")) [.int b] σ P := OCall.range1 h.use
theorem OCall.range2' {a b : Int} (h : Grown (.rng a b) σ P) : OCall G n (.top (.type "range")) [.int a, .int b] σ P := OCall.range2 h.use
theorem OCall.split' {x y : Str} (hx : x.length ≤ 1000000) (hy : (y.length == 0) = false) (hz : (Txt.split x y).length ≤ 1000000) (h : Grown (.list ((Txt.split x y).map .str)) σ P) : OCall G n (.top (.builtin "str.split")) [.str x, .str y] σ P := OCall.split hx hy hz h.use
theorem OCall.append' {k : Nat} {xs : List MV} {v : MV} {P : MV → List MO → Prop} (hk : σ[k]? = some (.list xs)) (hl : xs.length ≤ 1000000) (h : Turned k (.list (xs ++ [v])) σ (P .none)) : OCall G n (.top (.builtin "list.append")) [.obj k, v] σ P := OCall.append hk hl (h.use hk)
theorem O.setL' {k : Nat} {i : Int} {xs : List MV} {v : MV} {P : Unit → List MO → Prop} (hk : σ[k]? = some (.list xs)) (h0 : 0 ≤ i) (hi : i < xs.length) (hl : xs.length ≤ 1000000) (h : Turned k (.list (xs.set i.toNat v)) σ (P ())) : O G n RU [.obj k, .int i, v] SetT σ P :=
  O.setL hk h0 hi hl (h.use hk)
theorem O.delL' {k : Nat} {i : Int} {xs : List MV} {P : Unit → List MO → Prop} (hk : σ[k]? = some (.list xs)) (hlo : -(xs.length : Int) ≤ i) (hhi : i < xs.length) (hl : xs.length ≤ 1000000) (h : Turned k (.list (xs.eraseIdx (ixOf i xs.length))) σ (P ())) :
    O G n RU [.obj k, .int i] DelT σ P := O.delL hk hlo hhi hl (h.use hk)
theorem WN.c' {x : Str} {v : MV} {k : Nat} {v₀ : Option MV} {P : Loc → List MO → Prop} (hk : cx.scope.kind = .function) (hx : cx.scope.names.lookup x = some .cell) (hc : cx.cells.lookup x = some k) (hv : σ[k]? = some (.cell v₀))
    (h : Turned k (.cell (some v)) σ (P loc)) : WN G n cx x v loc σ P := WN.c hk hx hc hv (h.use hv)
theorem WE.upto' {value e : Expr} {p pos : Pos} (h : WE G n cx value loc σ fun a σ₁ => WE G n cx e loc σ₁ fun b σ₂ => ∃ k xs j, a = .obj k ∧ σ₂[k]? = some (.list xs) ∧ xs.length ≤ 1000000 ∧ b = .int j ∧ -1000000 ≤ j ∧ Grown (.list (Mine.upto xs j)) σ₂ P)
    (hs : ∀ o i, ∃ ops, subscripted (.Slice none (some e) none p) false o i = operate ops (getItem o i) := by intro _ _; exact ⟨_, rfl⟩) : WE G n cx (.Subscript value (.Slice none (some e) none p) pos) loc σ P :=
  WE.upto (WE.mono h fun _ _ q => WE.mono q fun _ _ ⟨k, xs, j, h1, h2, h3, h4, h5, h6⟩ => ⟨k, xs, j, h1, h2, h3, h4, h5, h6.use⟩) hs
theorem Then.next {rest : List Stmt} {P : MF → Loc → List MO → Prop} (h : WX G n cx rest loc σ P) : Then G n cx rest P .next loc σ := h
theorem Then.ret {rest : List Stmt} {v : MV} {P : MF → Loc → List MO → Prop} (h : P (.ret v) loc σ) : Then G n cx rest P (.ret v) loc σ := h
theorem Then.brk {rest : List Stmt} {P : MF → Loc → List MO → Prop} (h : P .brk loc σ) : Then G n cx rest P .brk loc σ := h
theorem Then.cont {rest : List Stmt} {P : MF → Loc → List MO → Prop} (h : P .cont loc σ) : Then G n cx rest P .cont loc σ := h
end
end Mine

namespace Mine

theorem look_eq {α : Type} {x : Str} {v : α} {l : List (Str × α)} : ((x, v) :: l).lookup x = some v := by simp
theorem look_ne {α : Type} {x y : Str} {v : α} {o : Option α} {l : List (Str × α)} (h : (x == y) = false) (hl : l.lookup x = o) : ((y, v) :: l).lookup x = o := by
  rw [List.lookup_cons, h]; exact hl
theorem kind_of {cx : Cx} {sc : Scope} (h : cx.scope = sc) (hk : sc.kind = .function) : cx.scope.kind = .function := by rw [h]; exact hk
theorem name_of {cx : Cx} {sc : Scope} {x : Str} {o : Option NameKind} (h : cx.scope = sc) (hk : sc.names.lookup x = o) : cx.scope.names.lookup x = o := by rw [h]; exact hk
theorem cell_of {cx : Cx} {cs : List (Str × Nat)} {x : Str} {o : Option Nat} (h : cx.cells = cs) (hk : cs.lookup x = o) : cx.cells.lookup x = o := by rw [h]; exact hk

section
variable {G : Gl} {n : Nat} {cx : Cx} {loc : Loc} {σ : List MO} {P : MV → List MO → Prop} {PB : Bool → List MO → Prop}

theorem OCall.def0 {f : Addr} {oc : Value} {od : Option Addr} {osl : Array (Option Value)} {name qual : Str} {params : Arguments} {body : List Stmt} {scope : Scope} {dV kV doc pm cdv ct : Value} {an : Option Addr} (xs : List Str) {vs : List MV} {loc : Loc}
    (ho : G.K.lookup f = some ⟨oc, od, .func (fnOf name qual params body scope dV kV doc pm an cdv ct), osl⟩) (hcd : codeIn G.K cdv qual = true)
    (hb : ∀ us : List Value, us.length = vs.length → bindArgs (fnOf name qual params body scope dV kV doc pm an cdv ct) ⟨us, []⟩ = pure (xs.zip us))
    (hkx : (xs.all fun y => scope.names.lookup y == some .local || (scope.names.lookup y == some .cell && ((cellsFrom 0 scope.names []).lookup y).isSome)) = true)
    (hnc : cellNames scope = []) (hco : scope.isCoroutine = false) (hgen : scope.isGenerator = false) (hk : scope.kind = .function) (hloc : bindLM (scope.names.lookup ·) (xs.zip vs) [] = loc)
    (h : ∀ cx : Cx, cx.scope = scope → cx.cells = [] → WX G n cx body loc σ fun f _ σ' => ∃ v, f = .ret v ∧ P v σ') :
    OCall G (n + 1) (.top (.ref f)) vs σ P := by
  refine OCall.def xs ho hcd hb hkx (by rw [hnc]; exact List.nodup_nil) hco hgen hk ?_
  rw [hnc, hloc]
  simp only [List.map_nil, List.append_nil]
  exact h _ rfl rfl
theorem OCall.defC {f : Addr} {oc : Value} {od : Option Addr} {osl : Array (Option Value)} {name qual : Str} {params : Arguments} {body : List Stmt} {scope : Scope} {dV kV doc pm cdv ct : Value} {an : Option Addr} (xs : List Str) {vs : List MV} {loc : Loc} {cn : List Str} {cs : List MO}
    (ho : G.K.lookup f = some ⟨oc, od, .func (fnOf name qual params body scope dV kV doc pm an cdv ct), osl⟩) (hcd : codeIn G.K cdv qual = true)
    (hb : ∀ us : List Value, us.length = vs.length → bindArgs (fnOf name qual params body scope dV kV doc pm an cdv ct) ⟨us, []⟩ = pure (xs.zip us))
    (hkx : (xs.all fun y => scope.names.lookup y == some .local || (scope.names.lookup y == some .cell && ((cellsFrom 0 scope.names []).lookup y).isSome)) = true)
    (hnc : cellNames scope = cn) (hnd : cn.Nodup) (hco : scope.isCoroutine = false) (hgen : scope.isGenerator = false) (hk : scope.kind = .function) (hloc : bindLM (scope.names.lookup ·) (xs.zip vs) [] = loc)
    (hcs : (cn.map fun c => MO.cell (bindCM (scope.names.lookup ·) (xs.zip vs) (fun _ => none) c)) = cs)
    (h : ∀ cx : Cx, cx.scope = scope → cx.cells = idx cn σ.length → WX G n cx body loc (σ ++ cs) fun f _ σ' => ∃ v, f = .ret v ∧ P v σ') :
    OCall G (n + 1) (.top (.ref f)) vs σ P := by
  refine OCall.def xs ho hcd hb hkx (by rw [hnc]; exact hnd) hco hgen hk ?_
  rw [hnc, hloc, hcs]
  exact h _ rfl rfl
end
end Mine

namespace Mine

section
variable {G : Gl} {n : Nat} {cx : Cx} {loc : Loc} {σ : List MO} {P : MV → List MO → Prop} {PB : Bool → List MO → Prop}

theorem range_filter_succ (p : Nat → Bool) (m : Nat) : (List.range (m + 1)).filter p = (List.range m).filter p ++ (if p m then [m] else []) := by
  rw [List.range_succ, List.filter_append]
  cases h : p m <;> simp [h]

theorem compChain_vals {k : Nat} {t : Expr} {ifs : List Expr} {elt : Expr} {ok : List MO → Prop} {P : Loc → List MO → Prop} {xs : List MV} {σ₁ : List MO} (hk : σ₁.length ≤ k) (hok : ∀ σ', σ₁ <+: σ' → ok σ') (hxs : xs.length ≤ 1000000) (keep : Nat → Bool) (f : Nat → MV)
    (turn : ∀ i x loc σ', xs[i]? = some x → σ₁ <+: σ' → WA G n cx t x loc σ' fun loc₁ σ₂ => WTs G n cx ifs loc₁ σ₂ fun b σ₃ => b = keep i ∧ σ' <+: σ₃ ∧ (b = true → WE G n cx elt loc₁ σ₃ fun v σ₄ => v = f i ∧ σ' <+: σ₄))
    (fin : ∀ loc σ', σ₁ <+: σ' → σ'[k]? = some (.list (((List.range xs.length).filter keep).map f)) → P loc σ') (h0 : σ₁ <+: σ) (hys : σ[k]? = some (.list [])) : compChain G n cx k t ifs (emitT elt) ok P xs loc σ := by
  have hkl : k < σ.length := (List.getElem?_eq_some_iff.mp hys).1
  refine compChain_map hkl (fun i ys σ' => σ₁ <+: σ' ∧ ys = ((List.range i).filter keep).map f) ?_ ?_ ⟨h0, rfl⟩ hys (hok _ h0)
  · rintro i x ys loc σ' hx ho hys ⟨p, rfl⟩
    have hi : i < xs.length := (List.getElem?_eq_some_iff.mp hx).1
    intro A fr env L ρ u s Q hA hact hrel hu hQ
    refine turn i x loc σ' hx p A fr env L ρ u s Q hA hact hrel hu ?_
    intro ρ' loc₁ σ₂ h' tk' S r q
    refine hQ ρ' loc₁ σ₂ h' tk' S r ?_
    refine WTs.mono (fun b σ₃ hb => ?_) q
    obtain ⟨hbk, p₃, he⟩ := hb
    refine ⟨fun hb => WE.mono (he hb) ?_, fun hb => ?_⟩
    · rintro v σ₄ ⟨rfl, p₄⟩
      have e4 : σ₄[k]? = some (.list (((List.range i).filter keep).map f)) := pget p₄ hys
      have hkl4 : k < σ₄.length := (List.getElem?_eq_some_iff.mp e4).1
      have hpre : σ₁ <+: σ₄.set k (.list (((List.range i).filter keep).map f ++ [f i])) := by
        obtain ⟨u, hu⟩ := p.trans p₄
        subst hu
        rw [List.set_append_right _ _ hk]
        exact List.prefix_append _ _
      refine ⟨e4, ?_, hok _ hpre, hpre, ?_⟩
      · rw [List.length_map]
        have := List.length_filter_le keep (List.range i)
        rw [List.length_range] at this
        lia
      · rw [range_filter_succ, ← hbk, hb]; simp
    · refine ⟨pget p₃ hys, hok _ (p.trans p₃), p.trans p₃, ?_⟩
      rw [range_filter_succ, ← hbk, hb]; simp
  · rintro loc ys σ' ho hys ⟨p, rfl⟩
    exact fin loc σ' p hys

theorem CompFrom.one {scope : Scope} {t : Expr} {ifs : List Expr} {elt : Expr} {P : Nat → List MO → Prop} {v : MV} {xs : List MV} {ok : List MO → Prop} (src : Src G n v xs ok σ) (hok : ∀ σ', σ <+: σ' → ok σ') (hxs : xs.length ≤ 1000000) (keep : Nat → Bool) (f : Nat → MV)
    (turn : ∀ (cx' : Cx) i x loc σ', cx' = compCx scope cx (σ.length + 1) → xs[i]? = some x → σ <+: σ' → WA G n cx' t x loc σ' fun loc₁ σ₂ => WTs G n cx' ifs loc₁ σ₂ fun b σ₃ => b = keep i ∧ σ' <+: σ₃ ∧ (b = true → WE G n cx' elt loc₁ σ₃ fun v σ₄ => v = f i ∧ σ' <+: σ₄))
    (fin : ∀ σ', σ <+: σ' → σ'[σ.length]? = some (.list (((List.range xs.length).filter keep).map f)) → P σ.length σ') : CompFrom G n cx scope t ifs (emitT elt) P v σ := by
  have p : σ <+: σ ++ [MO.list []] ++ (cellNames scope).map fun _ => MO.cell none := by
    rw [List.append_assoc]; exact List.prefix_append _ _
  refine ⟨xs, ok, src, hok _ p, ?_⟩
  refine compChain_vals (σ₁ := σ) (Nat.le_refl _) hok hxs keep f (fun i x loc σ' hx hp => turn _ i x loc σ' rfl hx hp) (fun loc σ' hp h => fin σ' hp h) p ?_
  rw [List.append_assoc, List.getElem?_append_right (Nat.le_refl _)]
  simp
end
end Mine

namespace Mine

section
variable {G : Gl} {n : Nat} {cx : Cx} {loc : Loc} {σ : List MO} {P : MV → List MO → Prop} {PB : Bool → List MO → Prop}

theorem compChain_valsL {k : Nat} {t : Expr} {ifs : List Expr} {elt : Expr} {ok : List MO → Prop} {P : Loc → List MO → Prop} {xs : List MV} {σ₁ : List MO} {ys₀ : List MV} (hk : σ₁.length ≤ k) (hok : ∀ σ', σ₁ <+: σ' → ok σ') (hxs : ys₀.length + xs.length ≤ 1000000) (LP : Loc → Prop) (f : Nat → MV)
    (hifs : ifs = [])
    (turn : ∀ i x loc σ', xs[i]? = some x → σ₁ <+: σ' → LP loc → WA G n cx t x loc σ' fun loc₁ σ₂ => LP loc₁ ∧ WE G n cx elt loc₁ σ₂ fun v σ₄ => v = f i ∧ σ' <+: σ₄)
    (fin : ∀ loc σ', LP loc → σ₁ <+: σ' → σ'[k]? = some (.list (ys₀ ++ (List.range xs.length).map f)) → P loc σ') (h0 : σ₁ <+: σ) (hLP : LP loc) (hys : σ[k]? = some (.list ys₀)) : compChain G n cx k t ifs (emitT elt) ok P xs loc σ := by
  subst hifs
  have key : ∀ (j i : Nat) (loc : Loc) (σ : List MO), j = xs.length - i → i ≤ xs.length → LP loc → σ₁ <+: σ → σ[k]? = some (.list (ys₀ ++ (List.range i).map f)) → compChain G n cx k t [] (emitT elt) ok P (xs.drop i) loc σ := by
    intro j
    induction j with
    | zero =>
      intro i loc σ hj hi hLP hp hys
      have : i = xs.length := by lia
      subst this
      rw [List.drop_length]
      exact fin loc σ hLP hp hys
    | succ j ih =>
      intro i loc σ hj hi hLP hp hys
      have hlt : i < xs.length := by lia
      rw [List.drop_eq_getElem_cons hlt]
      intro A fr env L ρ u s Q hA hact hrel hu hQ
      refine turn i xs[i] loc σ (List.getElem?_eq_getElem hlt) hp hLP A fr env L ρ u s Q hA hact hrel hu ?_
      intro ρ' loc' σ' h' tk' S r q
      refine hQ ρ' loc' σ' h' tk' S r ⟨fun _ => WA'.emit (WE.mono q.2 ?_), (by intro h; cases h)⟩
      rintro v σ₃ ⟨rfl, p₃⟩
      have e3 := pget p₃ hys
      have hkl3 : k < σ₃.length := (List.getElem?_eq_some_iff.mp e3).1
      have hpre : σ₁ <+: σ₃.set k (.list (ys₀ ++ (List.range i).map f ++ [f i])) := by
        obtain ⟨u, hu⟩ := hp.trans p₃
        subst hu
        rw [List.set_append_right _ _ hk]
        exact List.prefix_append _ _
      refine ⟨_, e3, by simp; lia, hok _ hpre, ih (i + 1) loc' _ (by lia) (by lia) q.1 hpre ?_⟩
      rw [List.getElem?_set_self hkl3, List.range_succ, List.map_append, ← List.append_assoc]; rfl
  exact key xs.length 0 loc σ (by lia) (Nat.zero_le _) hLP h0 (by simpa using hys)

theorem CompFrom.two {scope : Scope} {t t' iter iter' : Expr} {elt : Expr} {pos : Pos} {P : Nat → List MO → Prop} {v : MV} {xs : List MV} {ok : List MO → Prop} (src : Src G n v xs ok σ) (hok : ∀ σ', σ <+: σ' → ok σ') (m : Nat → Nat) (f : Nat → Nat → MV) (hm : ∀ i, m i ≤ 1000) (hxs : xs.length ≤ 900)
    (heq : TurnEq elt t' iter' [] [⟨t, iter, [], 0⟩, ⟨t', iter', [], 0⟩] scope pos 1 (emitT elt))
    (hs : ∀ env x, foldedSetIterable iter' env x = pure x)
    (turn : ∀ (cx' : Cx) i x loc σ', cx' = compCx scope cx (σ.length + 1) → xs[i]? = some x → σ <+: σ' → WA G n cx' t x loc σ' fun loc₁ σ₂ => WE G n cx' iter' loc₁ σ₂ fun v σ₃ => σ' <+: σ₃ ∧ ∃ (xs' : List MV) (ok' : List MO → Prop) (LP : Loc → Prop), Src G n v xs' ok' σ₃ ∧ (∀ σ'', ok' σ'') ∧ xs'.length = m i ∧ LP loc₁ ∧
      ∀ j y loc₂ σ'', xs'[j]? = some y → σ <+: σ'' → LP loc₂ → WA G n cx' t' y loc₂ σ'' fun loc₃ σ₄ => LP loc₃ ∧ WE G n cx' elt loc₃ σ₄ fun w σ₅ => w = f i j ∧ σ'' <+: σ₅)
    (fin : ∀ σ', σ <+: σ' → σ'[σ.length]? = some (.list ((List.range xs.length).flatMap fun i => (List.range (m i)).map (f i))) → P σ.length σ') :
    CompFrom G n cx scope t [] (innerT (.ListComp elt [⟨t, iter, [], 0⟩, ⟨t', iter', [], 0⟩] scope pos) 1 iter') P v σ := by
  have p : σ <+: σ ++ [MO.list []] ++ (cellNames scope).map fun _ => MO.cell none := by
    rw [List.append_assoc]; exact List.prefix_append _ _
  refine ⟨xs, ok, src, hok _ p, ?_⟩
  have hb : ∀ i, i ≤ xs.length → ((List.range i).flatMap fun i => (List.range (m i)).map (f i)).length ≤ 1000 * i := by
    intro i
    induction i with
    | zero => intro _; simp
    | succ i ih =>
      intro h
      rw [List.range_succ, List.flatMap_append, List.length_append]
      have := ih (by lia)
      have := hm i
      simp at *; lia
  have key : ∀ (j i : Nat) (loc : Loc) (σ' : List MO), j = xs.length - i → i ≤ xs.length → σ <+: σ' → σ'[σ.length]? = some (.list ((List.range i).flatMap fun i => (List.range (m i)).map (f i))) →
      compChain G n (compCx scope cx (σ.length + 1)) σ.length t [] (innerT (.ListComp elt [⟨t, iter, [], 0⟩, ⟨t', iter', [], 0⟩] scope pos) 1 iter') ok (fun _ σ' => P σ.length σ') (xs.drop i) loc σ' := by
    intro j
    induction j with
    | zero =>
      intro i loc σ' hj hi hp hys
      have : i = xs.length := by lia
      subst this
      rw [List.drop_length]
      exact fin σ' hp hys
    | succ j ih =>
      intro i loc σ' hj hi hp hys
      have hlt : i < xs.length := by lia
      rw [List.drop_eq_getElem_cons hlt]
      intro A fr env L ρ u s Q hA hact hrel hu hQ
      refine turn _ i xs[i] loc σ' rfl (List.getElem?_eq_getElem hlt) hp A fr env L ρ u s Q hA hact hrel hu ?_
      intro ρ' loc₁ σ₂ h' tk' S r q
      refine hQ ρ' loc₁ σ₂ h' tk' S r ⟨fun _ => WA'.inner (g0 := ⟨t, iter, [], 0⟩) (gens := [⟨t, iter, [], 0⟩, ⟨t', iter', [], 0⟩]) rfl heq (WE.mono q ?_) hs, (by intro h; cases h)⟩
      rintro v σ₃ ⟨p₃, xs', ok', LP, src', hok', hlen', hLP, hel⟩
      refine ⟨xs', ok', src', hok' _, ?_⟩
      have h1 := hb i (by lia)
      have h2 := hm i
      refine compChain_valsL (σ₁ := σ) (Nat.le_refl _) (fun σ' _ => hok' σ') (by rw [hlen']; lia) LP (f i) rfl (fun j y loc σ' hy hp' hl => hel j y loc σ' hy hp' hl) ?_ (hp.trans p₃) hLP (pget p₃ hys)
      intro loc₄ σ₄ _ p₄ e₄
      refine ⟨hok _ p₄, ih (i + 1) loc₄ σ₄ (by lia) (by lia) p₄ ?_⟩
      rw [e₄, hlen', List.range_succ, List.flatMap_append]
      simp
  refine key xs.length 0 [] _ (by lia) (Nat.zero_le _) p ?_
  rw [List.append_assoc, List.getElem?_append_right (Nat.le_refl _)]
  simp
end
end Mine

namespace Mine

section
variable {G : Gl} {n : Nat} {cx : Cx} {loc : Loc} {σ : List MO} {P : MV → List MO → Prop} {PB : Bool → List MO → Prop}

theorem turn1 {elt t iter : Expr} {ifs : List Expr} {scope : Scope} {pos : Pos} : TurnEq elt t iter ifs [⟨t, iter, ifs, 0⟩] scope pos 0 (emitT elt) := fun _ _ _ => rfl
theorem turn2 {elt t iter t' iter' : Expr} {scope : Scope} {pos : Pos} : TurnEq elt t iter [] [⟨t, iter, [], 0⟩, ⟨t', iter', [], 0⟩] scope pos 0 (innerT (.ListComp elt [⟨t, iter, [], 0⟩, ⟨t', iter', [], 0⟩] scope pos) 1 iter') := by
  intro it D env
  unfold innerT
  simp only [bind_assoc, pure_bind, List.forIn_nil, if_true]
  rfl
theorem turn3 {elt t iter t' iter' : Expr} {scope : Scope} {pos : Pos} : TurnEq elt t' iter' [] [⟨t, iter, [], 0⟩, ⟨t', iter', [], 0⟩] scope pos 1 (emitT elt) := fun _ _ _ => rfl

end
end Mine

namespace Mine

section
variable {G : Gl} {n : Nat} {cx : Cx} {loc : Loc} {σ : List MO} {fr : List Env} {L : Addr} {ρ ρ' : List Addr} {h h' h'' : Heap} {I J : Addr}

theorem Rel.but2 (r : Rel G fr L ρ loc σ h) (O : Off G fr L ρ I) (O' : Off G fr L ρ J) (k : ∀ b o, b ≠ I → b ≠ J → h.get? b = some o → h'.get? b = some o) : Rel G fr L ρ loc σ h' where
  base := fun b o e => k b o (fun x => by rw [x, O.base] at e; cases e) (fun x => by rw [x, O'.base] at e; cases e) (r.base b o e)
  len := r.len
  nodup := r.nodup
  lo := r.lo
  nL := r.nL
  loL := r.loL
  objs := fun j mo a e1 e2 => let ⟨o, ho, q⟩ := r.objs j mo a e1 e2; ⟨o, k _ _ (fun x => O.tab (x ▸ List.mem_of_getElem? e2)) (fun x => O'.tab (x ▸ List.mem_of_getElem? e2)) ho, q⟩
  ns := by
    obtain ⟨m, ⟨o', es, ep, e, q⟩, hm⟩ := r.ns
    exact ⟨m, ⟨o', es, ep, k _ _ O.loc.symm O'.loc.symm e, q⟩, hm⟩
  ff := ff_of r.ff fun b hb o' e hd => ⟨o', k b o' (fun x => O.frm (x ▸ hb)) (fun x => O'.frm (x ▸ hb)) e, hd⟩
  frn := r.frn
theorem Step.but2 (S : Step fr ρ ρ' L h h') (hI : h.get? I = none) (hJ : h.get? J = none) (k : ∀ b o, b ≠ I → b ≠ J → h'.get? b = some o → h''.get? b = some o) : Step fr ρ ρ' L h h'' :=
  ⟨S.pre, fun b o hb hL e => let ⟨o', e', q⟩ := S.keep b o hb hL e; ⟨o', k b o' (fun x => by rw [x, hI] at e; cases e) (fun x => by rw [x, hJ] at e; cases e) e', q⟩, S.fresh, S.nL⟩

noncomputable def enumChain (G : Gl) (n : Nat) (cx : Cx) (xk xv : Str) (body : List Stmt) (ok : List MO → Prop) (P : MF → Loc → List MO → Prop) : Nat → List MV → Loc → List MO → Prop
  | _, [], loc, σ => P .next loc σ
  | i, v :: vs, loc, σ => WN G n cx xk (.int i) loc σ fun l s => WN G n cx xv v l s fun l s => WX G n cx body l s fun f l s => match f with
    | .next | .cont => ok s ∧ enumChain G n cx xk xv body ok P (i + 1) vs l s
    | .brk => P .next l s
    | .ret m => P (.ret m) l s

theorem WS.forEnum {xk xv : Str} {pk pv pt p pos' pos : Pos} {x1 : Nat} {e : Expr} {body : List Stmt} {P : MF → Loc → List MO → Prop}
    (hl : WL G n cx (Str.ofString "enumerate") loc σ fun v σ₁ => v = .top (.type "enumerate") ∧ WEs G n cx [e] loc σ₁ fun vs σ₂ => ∃ j xs, vs = [.obj j] ∧ σ₂[j]? = some (.list xs) ∧ enumChain G n cx xk xv body (fun σ => σ[j]? = some (.list xs)) P 0 xs loc σ₂)
    (hp : ([e].all fun | .Starred .. => false | _ => true) = true) (hs : ∀ env x, foldedSetIterable (.Call (.Name (Str.ofString "enumerate") p) [e] [] pos') env x = pure x := by intro _ _; rfl) :
    WS G n cx (.For (.Tuple [.Name xk pk, .Name xv pv] x1 pt) (.Call (.Name (Str.ofString "enumerate") p) [e] [] pos') body [] pos) loc σ P := by
  intro A fr env L ρ s Q hA hact hrel hQ
  refine wpAny_For ?_ (hs env)
  refine wpAny_Call_Name_kw (wpAny_Name (hl A fr env L ρ s _ hA hact hrel ?_) (by decide))
  rintro ρ₁ v vf _ σ₁ h₁ t₁ S₁ R₁ rel₁ ⟨rfl, rfl, hP₁⟩
  cases R₁
  refine callWith_top (by intro a e; cases e) (plain_args pos' env hp) (evalArgs_any hp (hP₁ pos' A fr env L ρ₁ _ _ hA (hact.mono S₁.pre) rel₁ ?_))
  rintro ρ₂ vs us _ σ₂ h₂ t₂ S₂ R₂ rel₂ ⟨rfl, j, xs, rfl, hj, hch⟩
  obtain ⟨u, rfl, hu⟩ := one R₂
  obtain ⟨l, items, m, rfl, el, hlg, hit⟩ := rel₂.atList hu hj
  refine call_enumerate_1 hlg fun h₃ he₃ hi₃ hz₃ hk₃ => ?_
  have rel₃ := rel₂.ext hk₃
  have hnone : ∀ a, h₂.objs.size ≤ a → h₂.get? a = none := fun a ha => by
    cases e : h₂.get? a with
    | none => rfl
    | some o => exact absurd (Heap.lt_size e) (Nat.not_lt.mpr ha)
  have offI₂ : Off G fr L ρ₂ h₂.objs.size := rel₂.off (hnone _ (Nat.le_refl _))
  have offE₂ : Off G fr L ρ₂ (h₂.objs.size + 1) := rel₂.off (hnone _ (Nat.le_succ _))
  have S₂' := S₁.trans S₂
  have hI0 : s.heap.get? h₂.objs.size = none := by
    cases e : s.heap.get? h₂.objs.size with
    | none => rfl
    | some o =>
      obtain ⟨o', e', _⟩ := S₂'.keep _ o (fun hm => offI₂.tab (S₂'.pre.subset hm)) offI₂.loc e
      rw [hnone _ (Nat.le_refl _)] at e'; cases e'
  have hE0 : s.heap.get? (h₂.objs.size + 1) = none := by
    cases e : s.heap.get? (h₂.objs.size + 1) with
    | none => rfl
    | some o =>
      obtain ⟨o', e', _⟩ := S₂'.keep _ o (fun hm => offE₂.tab (S₂'.pre.subset hm)) offE₂.loc e
      rw [hnone _ (Nat.le_succ _)] at e'; cases e'
  have S₃ : Step fr ρ ρ₂ L s.heap h₃ := S₂'.trans (.ext hk₃)
  have hei : h₂.objs.size + 1 ≠ h₂.objs.size := Nat.succ_ne_self _
  generalize h₂.objs.size + 1 = E at *
  generalize h₂.objs.size = I at *
  refine wpAny_pyIter_enum he₃ ?_
  refine forLoop' (fun k s' => ∃ ρ' loc' σ' h' tk' i old, s' = { s with heap := h', toks := tk' } ∧ Step fr ρ ρ' L s.heap h' ∧ ρ₂ <+: ρ' ∧ Rel G fr L ρ' loc' σ' h' ∧ Off G fr L ρ' I ∧ Off G fr L ρ' E ∧ σ'[j]? = some (.list xs) ∧ IsEnum h' E I ((i : Nat) : Int) old ∧ h'.IsListIter I l i ∧
      enumChain G n cx xk xv body (fun σ => σ[j]? = some (.list xs)) P i (xs.drop i) loc' σ' ∧ i ≤ xs.length ∧ k = xs.length - i) ?_ xs.length
    ⟨ρ₂, loc, σ₂, h₃, t₂, 0, .none, rfl, S₃, List.prefix_rfl, rel₃, offI₂, offE₂, hj, he₃, hi₃, hch, Nat.zero_le _, rfl⟩
  rintro k _ ⟨ρ', loc', σ', h', tk', i, old, rfl, S', pre', rel', offI, offE, hj', he', hi', hch', hi, rfl⟩
  have el' : ρ'[j]? = some l := pre_get pre' el
  obtain ⟨a, vs, m', ea, ea', hlg', hvs⟩ := rel'.atList ⟨l, el', rfl⟩ hj'
  cases ea
  have isl : h'.IsList l vs.toArray := ⟨_, hlg', rfl, m', rfl⟩
  cases hx : xs[i]? with
  | none =>
    refine wpAny_pyNext_enum_end hA.handled he' hi' isl ?_ fun h'' he'' => ?_
    · rw [List.getElem?_eq_none_iff] at hx
      simp only [List.getElem?_toArray, List.getElem?_eq_none_iff, hvs.length]
      exact hx
    have : xs.drop i = [] := by rw [List.drop_eq_nil_iff]; exact List.getElem?_eq_none_iff.mp hx
    rw [this] at hch'
    exact wpAny_execs_nil (hQ ρ' .next _ loc' σ' h'' tk' (S'.but hI0 he'') rfl (rel'.but offI he'') hch')
  | some x =>
    obtain ⟨v, hv, rv⟩ := hvs.get hx
    have hlt : i < xs.length := (List.getElem?_eq_some_iff.mp hx).1
    have eH : E < h'.objs.size := Heap.lt_size he'
    obtain ⟨oi, hoi, hoir⟩ := id hi'
    have iH : I < h'.objs.size := Heap.lt_size hoi
    refine wpAny_pyNext_enum_item he' hi' isl (by simpa using hv) hei fun h₄ heo hit₄ ht₄ hz₄ hk₄ => ?_
    refine wpAny_letOwnedTupleGo_enum heo fun h₅ he₅ hs₅ => ?_
    replace hs₅ : Heap.SameBut E h₄ h₅ := hs₅
    have ht₅ : h₅.IsTuple h'.objs.size #[.int i tk', v] := ⟨_, (hs₅.2 _ (Nat.ne_of_gt eH)).trans ht₄, rfl, _, rfl⟩
    have hz₅ : h₅.objs.size = h'.objs.size + 1 := hs₅.1.trans hz₄
    refine wpAny_assign_Tuple hA.handled ht₅ rfl rfl fun h₆ hx₆ => ?_
    replace hx₆ : Heap.ExtBut h₅.objs.size h₅ h₆ := hx₆
    have old₆ : ∀ b o, b < h'.objs.size → h₅.get? b = some o → h₆.get? b = some o := fun b o hb x => hx₆ b o (by rw [hz₅]; exact Nat.ne_of_lt (Nat.lt_succ_of_lt hb)) x
    have k₆ : ∀ b o, b ≠ I → b ≠ E → h'.get? b = some o → h₆.get? b = some o := fun b o h1 h2 e => old₆ b o (Heap.lt_size e) ((hs₅.2 b h2).trans (hk₄ b o h2 h1 e))
    have rel₆ := rel'.but2 offI offE k₆
    have S₆ := S'.but2 hI0 hE0 k₆
    have he₆ : IsEnum h₆ E I ((i : Int) + 1) v := old₆ _ _ eH he₅
    obtain ⟨oi₄, hoi₄, hoir₄⟩ := hit₄
    have hoi₆ : h₆.get? I = some oi₄ := old₆ _ _ iH ((hs₅.2 I (Ne.symm hei)).trans hoi₄)
    rw [drop_cons hx] at hch'
    have ecast : ((i + 1 : Nat) : Int) = (i : Int) + 1 := by push_cast; rfl
    show wpAny _ A (do holding [v] (PySem.assign (.Name xk pk) env (.int i tk')); do holding [] (PySem.assign (.Name xv pv) env v); pure ()) _ _ _
    refine wpAny_bind (wpAny_holding (wpAny_assign_Name (hch' A fr env L ρ' (.int i tk') _ _ hA (hact.mono S'.pre) rel₆ ⟨_, rfl⟩ ?_)))
    intro loc₇ σ₇ h₇ t₇ S₇ rel₇ hP₇
    refine wpAny_bind (wpAny_holding (wpAny_assign_Name (hP₇ A fr env L ρ' v _ _ hA (hact.mono S'.pre) rel₇ rv ?_)))
    intro loc₈ σ₈ h₈ t₈ S₈ rel₈ hP₈
    refine wpAny_pure ?_
    refine hP₈ A fr env L ρ' _ _ hA (hact.mono S'.pre) rel₈ ?_
    intro ρ₉ f vf loc₉ σ₉ h₉ t₉ S₉ R₉ rel₉ hP₉
    have T := S₇.trans (S₈.trans S₉)
    have Sb := S₆.trans T
    have he₉ := offE.kept T he₆
    have hoi₉ := offI.kept T hoi₆
    have offI₉ := offI.step T hoi₆
    have offE₉ := offE.step T he₆
    cases f with
    | next =>
      cases R₉
      exact ⟨xs.length - (i + 1), by lia, ρ₉, loc₉, σ₉, h₉, t₉, i + 1, v, rfl, Sb, pre'.trans T.pre, rel₉, offI₉, offE₉, hP₉.1, by rw [ecast]; exact he₉, ⟨_, hoi₉, hoir₄⟩, hP₉.2, hlt, rfl⟩
    | cont =>
      cases R₉
      exact ⟨xs.length - (i + 1), by lia, ρ₉, loc₉, σ₉, h₉, t₉, i + 1, v, rfl, Sb, pre'.trans T.pre, rel₉, offI₉, offE₉, hP₉.1, by rw [ecast]; exact he₉, ⟨_, hoi₉, hoir₄⟩, hP₉.2, hlt, rfl⟩
    | brk => cases R₉; exact hQ ρ₉ .next _ loc₉ σ₉ h₉ t₉ Sb rfl rel₉ hP₉
    | ret m => obtain ⟨u, rfl, r⟩ := R₉; exact hQ ρ₉ (.ret m) _ loc₉ σ₉ h₉ t₉ Sb ⟨u, rfl, r⟩ rel₉ hP₉

theorem enumChain_inv {xk xv : Str} {body : List Stmt} {ok : List MO → Prop} {P : MF → Loc → List MO → Prop} {xs : List MV} (K : Nat → Loc → List MO → Prop)
    (turn : ∀ i x loc σ, xs[i]? = some x → ok σ → K i loc σ → WN G n cx xk (.int i) loc σ fun l s => WN G n cx xv x l s fun l s => WX G n cx body l s fun f l s => match f with
      | .next | .cont => ok s ∧ K (i + 1) l s
      | .brk => P .next l s
      | .ret m => P (.ret m) l s)
    (fin : ∀ loc σ, ok σ → K xs.length loc σ → P .next loc σ) {loc : Loc} {σ : List MO} (h0 : K 0 loc σ) (hok : ok σ) : enumChain G n cx xk xv body ok P 0 xs loc σ := by
  have key : ∀ (k i : Nat) (loc : Loc) (σ : List MO), k = xs.length - i → i ≤ xs.length → ok σ → K i loc σ → enumChain G n cx xk xv body ok P i (xs.drop i) loc σ := by
    intro k
    induction k with
    | zero =>
      intro i loc σ hk hi ho hj
      have : i = xs.length := by lia
      subst this
      rw [List.drop_length]
      exact fin loc σ ho hj
    | succ k ih =>
      intro i loc σ hk hi ho hj
      have hlt : i < xs.length := by lia
      rw [List.drop_eq_getElem_cons hlt]
      intro A fr env L ρ u s Q hA hact hrel hu hQ
      refine turn i xs[i] loc σ (List.getElem?_eq_getElem hlt) ho hj A fr env L ρ u s Q hA hact hrel hu ?_
      intro loc' σ' h' tk' S r p
      refine hQ loc' σ' h' tk' S r ?_
      intro A fr env L ρ u s Q hA hact hrel hu hQ
      refine p A fr env L ρ u s Q hA hact hrel hu ?_
      intro loc'' σ'' h'' tk'' S r p
      refine hQ loc'' σ'' h'' tk'' S r (W.mono p fun f l s q => ?_)
      cases f with
      | next => exact ⟨q.1, ih (i + 1) l s (by lia) (by lia) q.1 q.2⟩
      | cont => exact ⟨q.1, ih (i + 1) l s (by lia) (by lia) q.1 q.2⟩
      | brk => exact q
      | ret m => exact q
  exact key xs.length 0 loc σ (by lia) (Nat.zero_le _) hok h0

theorem rvs_ints {ρ : List Addr} : ∀ {ns : List Int} {vs : List Value}, IntsAre vs ns → RVs ρ (ns.map .int) vs
  | _, _, .nil => trivial
  | _, _, .cons _ t r => ⟨⟨t, rfl⟩, rvs_ints r⟩

theorem WE.uptoT {P : MV → List MO → Prop} {value e : Expr} {p pos : Pos} (h : WE G n cx value loc σ fun a σ₁ => WE G n cx e loc σ₁ fun b σ₂ => ∃ l vs, ∃ xs : List Int, ∃ j, a = .top (.ref l) ∧ G.H₀.IsList l (List.toArray vs) ∧ IntsAre vs xs ∧ xs.length ≤ 1000000 ∧ b = .int j ∧ 0 ≤ j ∧ Grown (.list ((xs.take j.toNat).map .int)) σ₂ P)
    (hs : ∀ o i, ∃ ops, subscripted (.Slice none (some e) none p) false o i = operate ops (getItem o i) := by intro _ _; exact ⟨_, rfl⟩) : WE G n cx (.Subscript value (.Slice none (some e) none p) pos) loc σ P := by
  intro A fr env L ρ s Q hA hact hrel hQ
  refine Subscript_ (h A fr env L ρ s _ hA hact hrel ?_)
  rintro ρ₁ a va _ σ₁ h₁ t₁ S₁ R₁ rel₁ ⟨rfl, hP₁⟩
  refine wpAny_Slice (evalPart_none_step (evalPart_some_step (hP₁ A fr env L ρ₁ _ _ hA (hact.mono S₁.pre) rel₁ ?_)))
  rintro ρ₂ b vb _ σ₂ h₂ t₂ S₂ R₂ rel₂ ⟨rfl, l, vs, xs, j, rfl, ⟨ob, hb, hbc, m, hbd⟩, hxs, hl, rfl, hj, hP⟩
  refine evalPart_none_step ?_
  obtain ⟨t, rfl⟩ := R₂
  cases R₁
  have ha := rel₂.base _ _ hb
  have hvs : RVs ρ₂ (xs.map .int) vs := rvs_ints hxs
  have hlen := hvs.length
  rw [List.length_map] at hlen
  dsimp only
  have k₃ : ∀ b o, h₂.get? b = some o → (h₂.push { cls := .type "slice", data := .fields #[.none, .int j t, .none] }).get? b = some o := fun b o e => Heap.get?_push_of_some _ e
  have rel₃ := rel₂.ext k₃
  obtain ⟨ops, hops⟩ := hs (.ref l) (.ref h₂.objs.size)
  have ha₃ := k₃ _ _ ha
  have hsl := Heap.get?_push_size h₂ (o := { cls := .type "slice", data := .fields #[.none, .int j t, .none] }) rfl
  generalize hH : h₂.push { cls := .type "slice", data := .fields #[.none, .int j t, .none] } = H at k₃ rel₃ ha₃ hsl
  have isl : H.IsList l vs.toArray := ⟨ob, ha₃, hbc, m, hbd⟩
  refine tail_any (s := { s with heap := H, toks := t₂ }) (isl.typeIs (s := { s with heap := H, toks := t₂ })) slot_list_getitem.lookup ?_ hops
  refine wpAny_getItem_list_slice (s := { s with heap := H, toks := t₂ }) (lo := none) (hi := some j) (st := none) isl ⟨_, hsl, rfl, rfl⟩ .none (.int j t) .none (by simp) ?_ (by rw [List.size_toArray, hlen, sizeLine_eq]; lia)
  have e1 : slicePick vs.toArray none (some j) none = (vs.take j.toNat).toArray := by
    obtain ⟨i, rfl⟩ := Int.eq_ofNat_of_zero_le hj
    rw [slicePick_upto']
    simp
  rw [e1]
  have made := rel₃.push (mo := .list ((xs.take j.toNat).map .int)) (o := { cls := .type "list", data := .seq (vs.take j.toNat).toArray }) ⟨_, 0, rfl, by rw [List.map_take]; exact hvs.take _⟩ rfl
  have Sp := rel₃.pushStep { cls := .type "list", data := .seq (vs.take j.toNat).toArray }
  exact hQ (ρ₂ ++ [H.objs.size]) (.obj σ₂.length) _ _ _ _ t₂ ((S₁.trans S₂).trans ((Step.ext k₃).trans Sp)) ⟨_, get_last rel₂.len, rfl⟩ made ⟨rfl, hP.use⟩
end
end Mine

namespace Mine


section
variable {G : Gl} {n : Nat} {cx : Cx} {loc : Loc} {σ : List MO} {P : MV → List MO → Prop}

theorem OCall.iter {k : Nat} {xs : List MV} (hk : σ[k]? = some (.list xs)) (h : Grown (.iter k 0) σ P) : OCall G n (.top (.builtin "iter")) [.obj k] σ P := by
  intro A fr L ρ loc us s Q hA hrel hus hQ
  obtain ⟨f, u, rfl, hf, hu⟩ := two hus
  cases hf
  obtain ⟨a, vs, m, rfl, ea, ha, hvs⟩ := hrel.atList hu hk
  refine call_function_entry (by decide +kernel) (by decide +kernel) kdk_entry_iter (kdk_args_iter _) ?_
  unfold Builtin.«iter»
  refine wpAny_bind (m := someArgs "iter" 1 2 _) (wpAny_of_eq (a := [Value.ref a]) (by first | rfl | kernel_rfl!) ?_)
  show wpAny _ _ (pyIter (.ref a) >>= _) _ _ _
  refine wpAny_bind (wpAny_pyIter_list (items := vs.toArray) ⟨_, ha, rfl, m, rfl⟩ ?_)
  exact wpAny_pure ⟨_, rfl, hrel.made hQ (mo := .iter k 0) ⟨a, ea, rfl, rfl⟩ rfl h.use⟩

theorem OCall.next {q k i : Nat} {xs : List MV} {x : MV} (hq : σ[q]? = some (.iter k i)) (hk : σ[k]? = some (.list xs)) (hx : xs[i]? = some x) (h : Turned q (.iter k (i + 1)) σ (P x)) : OCall G n (.top (.builtin "next")) [.obj q] σ P := by
  intro A fr L ρ loc us s Q hA hrel hus hQ
  obtain ⟨f, u, rfl, hf, hu⟩ := two hus
  cases hf
  obtain ⟨I, eI, rfl⟩ := hu
  obtain ⟨oI, hoI, a, ea, hc, hd⟩ := hrel.objs q _ I hq eI
  obtain ⟨a', vs, m, ea1, ea', ha, hvs⟩ := hrel.atList ⟨a, ea, rfl⟩ hk
  cases ea1
  obtain ⟨v, hv, rv⟩ := hvs.get hx
  have hit : s.heap.IsListIter I a i := ⟨oI, hoI, hc, hd⟩
  refine call_function_entry (by decide +kernel) (by decide +kernel) kdk_entry_next (kdk_args_next _) ?_
  unfold Builtin.«next»
  refine wpAny_bind (m := someArgs "next" 1 2 _) (wpAny_of_eq (a := [Value.ref I]) (by first | rfl | kernel_rfl!) ?_)
  dsimp only
  refine wpAny_bind (wpAny_specialOf (name := Str.ofString "__next__") hit.typeIs slot_listiter_next.lookup ?_)
  refine wpAny_ite_split (fun hab => absurd hab (by decide)) (fun _ => ?_)
  refine wpAny_bind (wpAny_callSpecial?_slot (name := Str.ofString "__next__") hit.typeIs slot_listiter_next
    (wpAny_call_entry slot_listiter_next hit.typeIs entry_listiter_next ?_ (args_listiter_next _)))
  show wpAny _ _ (field (.ref I) 0 >>= _) _ _ s
  refine wpAny_bind (wpAny_field hoI hd (x := .ref a) rfl ?_)
  show wpAny _ _ (if (Value.ref a == Value.none) = true then _ else _) _ _ s
  rw [if_neg (show ¬ ((Value.ref a == Value.none) = true) from Bool.false_ne_true)]
  show wpAny _ _ (field (.ref I) 1 >>= _) _ _ s
  refine wpAny_bind (wpAny_field hoI hd (x := .int i 0) rfl ?_)
  show wpAny _ _ (seqItems? (.ref a) >>= _) _ _ s
  refine wpAny_bind (wpAny_seqItems ha rfl ?_)
  have hx' : vs.toArray[i]? = some v := by simpa using hv
  simp only [Int.toNat_natCast, hx']
  refine wpAny_bind (wpAny_setField hoI hd (by simp) (wpAny_pure ⟨v, rfl, wpAny_pure ⟨v, rfl, ?_⟩⟩))
  have e' := Heap.get?_update_self (Obj.mapFields (·.setIfInBounds 1 (rawInt ((i : Int) + 1)))) hoI (Obj.isFreed_of_fields (Obj.data_mapFields hd _))
  have hs : ∀ b ob, b ≠ I → s.heap.get? b = some ob → (s.heap.update I (Obj.mapFields (·.setIfInBounds 1 (rawInt ((i : Int) + 1))))).get? b = some ob := fun b ob hb e => (Heap.get?_update_other _ _ (Ne.symm hb)).trans e
  exact hQ ρ x v _ _ s.toks (.update eI hs) rv (hrel.update (mo := .iter k (i + 1)) eI hs e' ⟨a, ea, (Obj.cls_mapFields ..).trans hc, by rw [Obj.data_mapFields hd]; simp [rawInt]⟩) (h.use hq)

theorem next_stop {A : Around} {E : Value → Shared → Prop} {s : Shared} {Q : Value → Shared → Prop} {I l : Addr} {i : Nat} {items : Array Value} (hh : A.handled = none) (hit : s.heap.IsListIter I l i) (hl : s.heap.IsList l items) (hx : items[i]? = none)
    (hE : ∀ h₁ h' e, (∀ b o, b ≠ I → s.heap.get? b = some o → h₁.get? b = some o) → (∃ o, h₁.get? I = some o) → Heap.NewExc h₁ h' e "StopIteration" → E (.ref e) { s with heap := h' }) :
    wpAny (model G.prog G.w) A (call (.builtin "next") [.ref I]) Q E s := by
  obtain ⟨oI, hoI, hc, hd⟩ := id hit
  obtain ⟨ol, hol, _, nl, hdl⟩ := hl
  refine wpAny_mono (Q := fun v s' => False) (E := E) ?_ (fun _ _ x => x.elim) fun _ _ x => x
  refine call_function_entry (by decide +kernel) (by decide +kernel) kdk_entry_next (kdk_args_next _) ?_
  unfold Builtin.«next»
  refine wpAny_bind (m := someArgs "next" 1 2 _) (wpAny_of_eq (a := [Value.ref I]) (by first | rfl | kernel_rfl!) ?_)
  dsimp only
  refine wpAny_bind (wpAny_specialOf (name := Str.ofString "__next__") hit.typeIs slot_listiter_next.lookup ?_)
  refine wpAny_ite_split (fun hab => absurd hab (by decide)) (fun _ => ?_)
  refine wpAny_bind (wpAny_callSpecial?_slot (name := Str.ofString "__next__") hit.typeIs slot_listiter_next
    (wpAny_call_entry slot_listiter_next hit.typeIs entry_listiter_next ?_ (args_listiter_next _)))
  show wpAny _ _ (field (.ref I) 0 >>= _) _ _ s
  refine wpAny_bind (wpAny_field hoI hd (x := .ref l) rfl ?_)
  show wpAny _ _ (if (Value.ref l == Value.none) = true then _ else _) _ _ s
  rw [if_neg (show ¬ ((Value.ref l == Value.none) = true) from Bool.false_ne_true)]
  show wpAny _ _ (field (.ref I) 1 >>= _) _ _ s
  refine wpAny_bind (wpAny_field hoI hd (x := .int i 0) rfl ?_)
  show wpAny _ _ (seqItems? (.ref l) >>= _) _ _ s
  refine wpAny_bind (wpAny_seqItems hol hdl ?_)
  simp only [Int.toNat_natCast, hx]
  refine wpAny_bind (wpAny_rule (wpAny_bind (wpAny_setField hoI hd (by simp) ?_)))
  have e' := Heap.get?_update_self (Obj.mapFields (·.setIfInBounds 0 Value.none)) hoI (Obj.isFreed_of_fields (Obj.data_mapFields hd _))
  have hs : ∀ b ob, b ≠ I → s.heap.get? b = some ob → (s.heap.update I (Obj.mapFields (·.setIfInBounds 0 Value.none))).get? b = some ob := fun b ob hb e => (Heap.get?_update_other _ _ (Ne.symm hb)).trans e
  generalize s.heap.update I (Obj.mapFields (·.setIfInBounds 0 Value.none)) = h₁ at e' hs
  show wpAny _ _ (newExc (.type "StopIteration") [] >>= _) _ _ _
  refine wpAny_bind ?_
  simp only [newExc, newTuple]
  refine wpAny_bind (wpAny_newObj_type ?_ (by size_fits))
  refine wpAny_bind (m := firstArgMember _ _) (wpAny_of_eq (a := Value.none) (by first | rfl | (simp only [firstArgMember]; rfl)) ?_)
  refine wpAny_newObj_type ?_ (by size_fits)
  simp only [raiseNew]
  refine wpAny_bind (wpAny_handled ?_)
  rw [show A.in1.in1.handled = none from hh]
  refine wpAny_bind (wpAny_pure (wpAny_throw ?_))
  have hz : (h₁.push { cls := .type "tuple", data := .seq ([] : List Value).toArray }).objs.size = h₁.objs.size + 1 := Heap.size_push ..
  refine hE h₁ _ _ hs ⟨_, e'⟩ ⟨fun b o e => Heap.get?_push_of_some _ (Heap.get?_push_of_some _ e), ?_, ⟨_, .ref h₁.objs.size, Heap.get?_push_size _ rfl, rfl, rfl⟩⟩
  exact Heap.get?_none_of_le (by rw [hz]; exact Nat.le_succ _)
end
end Mine

namespace Mine

theorem toE {M : Model} {A : Around} {α : Type} {t : Sem α} {Q : α → Shared → Prop} {E : Value → Shared → Prop} {s : Shared} (h : wpAny M A t Q NoE s) : wpAny M A t Q E s := wpAny_mono h (fun _ _ x => x) fun _ _ x => x.elim

noncomputable def KeptBut (fr : List Env) (I : Addr) (h h' : Heap) : Prop :=
  (∀ b o, b ≠ I → b ∉ frs fr → h.get? b = some o → h'.get? b = some o) ∧ (∀ b o, b ∈ frs fr → h.get? b = some o → ∃ sl, h'.get? b = some { o with slots := sl }) ∧ ∃ o, h'.get? I = some o

section
variable {G : Gl} {n : Nat} {cx : Cx} {loc : Loc} {σ : List MO} {P : MV → List MO → Prop}

theorem Rel.keptBut {fr : List Env} {L I : Addr} {ρ : List Addr} {h h' : Heap} {q : Nat} (r : Rel G fr L ρ loc σ h) (hI : ρ[q]? = some I) (k : KeptBut fr I h h') : Rel G fr L ρ loc (σ.set q .gone) h' := by
  obtain ⟨k1, k2, o', hI'⟩ := k
  have hm : I ∈ ρ := List.mem_of_getElem? hI
  have hIf : I ∉ frs fr := fun hf => r.frn I hf hm
  refine ⟨fun b o e => ?_, by simp [r.len], r.nodup, r.lo, r.nL, r.loL, fun j mo a e1 e2 => ?_, ?_, ?_, r.frn⟩
  · refine k1 b o (fun x => ?_) (fun hf => ?_) (r.base b o e)
    · have := r.lo I hm; rw [← x, e] at this; cases this
    · have := (r.ff.mem hf).1; rw [e] at this; cases this
  · by_cases hj : j = q
    · subst hj
      rw [hI] at e2; cases e2
      have : j < σ.length := by
        have := (List.getElem?_eq_some_iff.mp hI).1
        rw [← r.len]; exact this
      rw [List.getElem?_set_self this] at e1
      cases e1
      exact ⟨o', hI', trivial⟩
    · rw [List.getElem?_set_ne (Ne.symm hj)] at e1
      obtain ⟨o, ho, q'⟩ := r.objs j mo a e1 e2
      refine ⟨o, k1 a o ?_ (fun hf => r.frn a hf (List.mem_of_getElem? e2)) ho, q'⟩
      rintro rfl
      have h1 := (List.getElem?_eq_some_iff.mp e2)
      have h2 := (List.getElem?_eq_some_iff.mp hI)
      exact hj ((List.getElem_inj r.nodup).mp (h1.2.trans h2.2.symm))
  · obtain ⟨m, ⟨oL, es, ep, eL, d, q'⟩, hm'⟩ := r.ns
    have hLI : L ≠ I := fun x => r.nL (x ▸ hm)
    by_cases hf : L ∈ frs fr
    · obtain ⟨sl, e'⟩ := k2 L oL hf eL
      exact ⟨m, ⟨_, es, ep, e', d, q'⟩, hm'⟩
    · exact ⟨m, ⟨_, es, ep, k1 L oL hLI hf eL, d, q'⟩, hm'⟩
  · exact ff_of r.ff fun b hb o e hd => let ⟨sl, e'⟩ := k2 b o hb e; ⟨_, e', hd⟩

theorem frame_dict {base h : Heap} {l : List Env} (hl : h.FunFrames base l) {b : Addr} {o : Obj} (hb : b ∈ frs l) (e : h.get? b = some o) : ∀ vs, o.data ≠ .fields vs := by
  obtain ⟨_, o', e', d⟩ := hl.mem hb
  rw [e] at e'; cases e'; exact d

theorem stop_def {f : Addr} {oc : Value} {od : Option Addr} {osl : Array (Option Value)} {name qual : Str} {params : Arguments} {rest : List Stmt} {scope : Scope} {dV kV doc pm cdv ct : Value} {an : Option Addr} {x y : Str} {p p1 p2 p3 p4 : Pos} {body : List Stmt}
    (ho : G.K.lookup f = some ⟨oc, od, .func (fnOf name qual params body scope dV kV doc pm an cdv ct), osl⟩) (hcd : codeIn G.K cdv qual = true)
    (hb : ∀ us : List Value, us.length = 1 → bindArgs (fnOf name qual params body scope dV kV doc pm an cdv ct) ⟨us, []⟩ = pure ([x].zip us))
    (hbody : body = .Assign [.Name y p] (.Call (.Name (Str.ofString "next") p1) [.Name x p2] [] p3) p4 :: rest)
    (hx : scope.names.lookup x = some .local) (hnx : scope.names.lookup (Str.ofString "next") = some .globalImplicit) (hnc : cellNames scope = []) (hco : scope.isCoroutine = false) (hgen : scope.isGenerator = false) (hk : scope.kind = .function) (hd : (x == ("__debug__" : Str)) = false)
    (hg : nsIn G.K mainGlobals (Str.ofString "next") = some none) (hv : bootBuiltins (Str.ofString "next") = some (.builtin "next"))
    {A : Around} {fr : List Env} {L : Addr} {ρ : List Addr} {s : Shared} {Q : Value → Shared → Prop} {E : Value → Shared → Prop} {q k i : Nat} {xs : List MV} {I : Addr} (hA : OkA (n + 1) fr A) (hrel : Rel G fr L ρ loc σ s.heap) (hq : σ[q]? = some (.iter k i)) (hkx : σ[k]? = some (.list xs)) (hi : xs.length ≤ i) (hI : ρ[q]? = some I)
    (hE : ∀ h' tk e base a0, Heap.FlyingW base fr e (.type "StopIteration") a0 h' → KeptBut fr I s.heap h' → (∀ b o, s.heap.get? b = some o → b ≠ I → b ∉ frs fr → base.get? b = some o) → (∃ o, base.get? I = some o) → (∀ b ∈ frs fr, base.get? b = none) → E (.ref e) { s with heap := h', toks := tk }) :
    wpAny (model G.prog G.w) A (call (.ref f) [.ref I]) Q E s := by
  have hcells : ∀ k, (cellsFrom k scope.names []).map (·.1) = cellNames scope := fun k => cellsFrom_names _ _ _ _ _ rfl
  refine wpAny_call (codeAny_call_cells (fd := fnOf name qual params body scope dV kV doc pm an cdv ct) (body := body) (binds := [x].zip [.ref I]) (Nat.lt_of_le_of_lt (Nat.le_add_right _ _) hA.depth) (hrel.base _ _ (G.X _ _ ho)) rfl (G.T.nolimit.keeps hrel.base)
    (codeRec_of (G.X.keeps hrel.base) hcd) rfl (hb [.ref I] rfl) rfl (fun z hz => ?_) ?_ hco hgen hk)
  · have hz' := (List.of_mem_zip (a := z.1) (b := z.2) hz).1
    rw [List.mem_singleton] at hz'
    rw [hz']; exact .inl hx
  intro s₁ hin
  obtain ⟨h₁, t₁, rfl⟩ := hin.toInCall.same
  have ec : (callEnvC (fnOf name qual params body scope dV kV doc pm an cdv ct) s.heap.objs.size f).cells = [] := by
    have : ((callEnvC (fnOf name qual params body scope dV kV doc pm an cdv ct) s.heap.objs.size f).cells).map (·.1) = [] := (hcells _).trans hnc
    exact List.map_eq_nil_iff.mp this
  have ent := hrel.enter (env := callEnvC (fnOf name qual params body scope dV kV doc pm an cdv ct) s.heap.objs.size f) (L' := s.heap.objs.size) (xs := [x]) (vs := [.obj q]) (us := [.ref I]) ⟨⟨I, hI, rfl⟩, trivial⟩ rfl rfl (by show scope.kind ≠ .module; rw [hk]; decide)
      hin.toInCall.ns hin.toInCall.keep hin.cell hin.apart hin.above (by rw [ec]; exact List.nodup_nil)
  rw [ec] at ent
  simp only [List.map_nil, List.append_nil] at ent
  have hnsz : ∀ o, s.heap.get? s.heap.objs.size ≠ some o := fun o e => absurd (Heap.lt_size e) (Nat.lt_irrefl _)
  have hact : Act ⟨scope, []⟩ ρ s.heap.objs.size (callEnvC (fnOf name qual params body scope dV kV doc pm an cdv ct) s.heap.objs.size f) := ⟨rfl, rfl, rfl, rfl, fun _ _ e => by cases e⟩
  have hA' : OkA n (callEnvC (fnOf name qual params body scope dV kV doc pm an cdv ct) s.heap.objs.size f :: fr) (A.deeper (callEnvC (fnOf name qual params body scope dV kV doc pm an cdv ct) s.heap.objs.size f)) := by
    refine ⟨hA.handled, ?_, ?_, ?_⟩
    · have := hA.depth
      show A.depth + 1 + n < _
      lia
    · have := hA.units
      show A.units + 3 + 16 * n + 8 < _
      lia
    · show A.frames.map _ = _
      rw [hA.frames]; rfl
  have hfrs : frs (callEnvC (fnOf name qual params body scope dV kV doc pm an cdv ct) s.heap.objs.size f :: fr) = s.heap.objs.size :: frs fr := rfl
  have hfl := hin.toInCall.keep
  generalize hEe : callEnvC (fnOf name qual params body scope dV kV doc pm an cdv ct) s.heap.objs.size f = env' at *
  have hef : env'.frame = some s.heap.objs.size := by rw [← hEe]; rfl
  rw [hbody]
  have hx' : env'.kindOf x = some .local := by rw [← hEe]; exact hx
  have hk' : env'.scope.kind = .function := by rw [← hEe]; exact hk
  obtain ⟨mL, hnL, hmL⟩ := ent.ns
  obtain ⟨uI, hmx, hru⟩ := hmL x (.obj q) (by simp [bindLM, hx'])
  have hru' : uI = .ref I := by
    obtain ⟨a, ea, rfl⟩ := hru
    rw [hI] at ea; cases ea; rfl
  subst hru'
  have hp : ([Expr.Name x p2].all fun | .Starred .. => false | _ => true) = true := rfl
  refine wpAny_execs_cons (wpAny_Assign_Name (wpAny_Call_Name_kw (wpAny_Name (ks_loadName_global hk' (by rw [← hEe]; exact hnx) (loadGlobal_builtin (env := env') (by rw [hact.glob]; exact G.T.g.keeps ent.base) (mg_none_of G.X G.T.g hg) (by rw [hact.blt]; exact G.T.b.keeps ent.base) ((G.T.builtins _ (by decide)).trans hv) ?_)) (by decide))) (by rfl))
  refine callWith_top (by intro a e; cases e) (plain_args p3 env' hp) (evalArgs_any hp ?_)
  refine spliced_cons (wpAny_Name (wpAny_loadName_local hk' hx' (by rw [hact.loc]; exact hnL) hmx ?_) hd)
  refine spliced_nil ?_
  obtain ⟨oI, hoI, a, ea, hc, hdI⟩ := ent.objs q _ I hq hI
  obtain ⟨a', vs', m, ea1, ea', ha, hvs⟩ := ent.atList ⟨a, ea, rfl⟩ hkx
  cases ea1
  refine next_stop hA.handled ⟨oI, hoI, hc, hdI⟩ ⟨_, ha, rfl, m, rfl⟩ (by
    simp only [List.getElem?_toArray, List.getElem?_eq_none_iff, hvs.length]; exact hi) fun h₄ h₅ e kI hI₄ hx₅ => ?_
  -- the exception leaves the def
  have hIm : I ∈ ρ := List.mem_of_getElem? hI
  have hIas : I ∉ frs (env' :: fr) := fun hf => ent.frn I hf hIm
  have hff₄ : h₄.FunFrames G.H₀ (env' :: fr) := ff_of ent.ff fun b hb o e hd => ⟨o, kI b o (fun x => hIas (x ▸ hb)) e, hd⟩
  have hfb := funFrames_hide (as := frs (env' :: fr)) hff₄ fun env he a hf => List.mem_filterMap.mpr ⟨env, he, hf⟩
  have hff₅ := hfb.of_keeps fun b o hb _ => ⟨o, hx₅.keeps b o hb, rfl⟩
  obtain ⟨ob, tp, he, hcls, hdE⟩ := hx₅.there
  have hen : (hideAll h₄ (frs (env' :: fr))).get? e = none := by
    cases q : (hideAll h₄ (frs (env' :: fr))).get? e with
    | none => rfl
    | some o => have := of_hideAll _ q; rw [hx₅.new] at this; cases this
  refine wpAny_leaving_firstW (a0 := tp) hA'.frames hff₅ hef he (fun b o hb => hx₅.keeps b o (of_hideAll _ hb)) hen hdE rfl rfl fun h' hL => ?_
  obtain ⟨k1, ⟨_, _, k2⟩, k3, k4⟩ := hL
  rw [hcls] at k3
  have hsz : ∀ b o, s.heap.get? b = some o → b ≠ s.heap.objs.size := fun b o e q => hnsz o (q ▸ e)
  have notas : ∀ b o, s.heap.get? b = some o → b ∉ frs fr → b ∉ frs (env' :: fr) := fun b o e hb hm => by
    rw [hfrs] at hm
    rcases List.mem_cons.mp hm with h | h
    · exact hsz b o e h
    · exact hb h
  have tob : ∀ b o, s.heap.get? b = some o → b ≠ I → b ∉ frs fr → (hideAll h₄ (frs (env' :: fr))).get? b = some o := fun b o e h1 h2 =>
    hideAll_get _ (kI b o h1 (hfl b o e)) (notas b o e h2)
  obtain ⟨oI₄, hI₄⟩ := hI₄
  have hIb : (hideAll h₄ (frs (env' :: fr))).get? I = some oI₄ := hideAll_get _ hI₄ hIas
  refine hE h' _ e _ tp ⟨k1, hen, k2, k3⟩ ⟨fun b o h1 h2 e => k1 b o (tob b o e h1 h2), fun b o hb e => ?_, _, k1 I _ hIb⟩ tob ⟨_, hIb⟩ fun b hb => hideAll_none _ (by rw [hfrs]; exact List.mem_cons_of_mem _ hb)
  have hbI : b ≠ I := fun x => hrel.frn b hb (x ▸ hIm)
  exact k4 b o (hx₅.keeps b o (kI b o hbI (hfl b o e))) (frame_dict hrel.ff hb e)
end
end Mine

namespace Mine

section
variable {G : Gl} {n : Nat} {cx : Cx} {loc : Loc} {σ : List MO}

noncomputable def WF (G : Gl) (n : Nat) (cx : Cx) (b : List Stmt) (loc : Loc) (σ : List MO) (P : MF → Loc → List MO → Prop) : Prop :=
  ∀ (A : Around) (fr : List Env) (env : Env) (L : Addr) (ρ : List Addr) (s : Shared) (Q : Flow → Shared → Prop), OkA n (env :: fr) A → env.frame = some L → Act cx ρ L env → Rel G (env :: fr) L ρ loc σ s.heap →
    (∀ ρ' b a loc' σ' h' tk', Step (env :: fr) ρ ρ' L s.heap h' → RF ρ' b a → Rel G (env :: fr) L ρ' loc' σ' h' → P b loc' σ' → Q a { s with heap := h', toks := tk' }) →
    wpAny (model G.prog G.w) A (execs b env) Q NoE s
noncomputable def ThenF (G : Gl) (n : Nat) (cx : Cx) (rest : List Stmt) (P : MF → Loc → List MO → Prop) (f : MF) (loc : Loc) (σ : List MO) : Prop := match f with
  | .next => WF G n cx rest loc σ P
  | f => P f loc σ
theorem ThenF.next {rest : List Stmt} {P : MF → Loc → List MO → Prop} (h : WF G n cx rest loc σ P) : ThenF G n cx rest P .next loc σ := h
theorem WF.cons {st : Stmt} {rest : List Stmt} {P : MF → Loc → List MO → Prop} (h : WS G n cx st loc σ (ThenF G n cx rest P)) : WF G n cx (st :: rest) loc σ P := by
  intro A fr env L ρ s Q hA hf hact hrel hQ
  refine wpAny_execs_cons (h A (env :: fr) env L ρ s _ hA hact hrel ?_)
  rintro ρ₁ f vf loc₁ σ₁ h₁ t₁ S₁ R₁ rel₁ hP₁
  cases f with
  | next =>
    cases R₁
    refine hP₁ A fr env L ρ₁ _ _ hA hf (hact.mono S₁.pre) rel₁ ?_
    rintro ρ₂ f vf loc₂ σ₂ h₂ t₂ S₂ R₂ rel₂ hP₂
    exact hQ ρ₂ f vf loc₂ σ₂ h₂ t₂ (S₁.trans S₂) R₂ rel₂ hP₂
  | brk => cases R₁; exact hQ ρ₁ .brk _ loc₁ σ₁ h₁ t₁ S₁ rfl rel₁ hP₁
  | cont => cases R₁; exact hQ ρ₁ .cont _ loc₁ σ₁ h₁ t₁ S₁ rfl rel₁ hP₁
  | ret m => obtain ⟨v, rfl, r⟩ := R₁; exact hQ ρ₁ (.ret m) _ loc₁ σ₁ h₁ t₁ S₁ ⟨v, rfl, r⟩ rel₁ hP₁

theorem OCall.defF {P : MV → List MO → Prop} {f : Addr} {oc : Value} {od : Option Addr} {osl : Array (Option Value)} {name qual : Str} {params : Arguments} {body : List Stmt} {scope : Scope} {dV kV doc pm cdv ct : Value} {an : Option Addr} (xs : List Str) {vs : List MV} {loc : Loc}
    (ho : G.K.lookup f = some ⟨oc, od, .func (fnOf name qual params body scope dV kV doc pm an cdv ct), osl⟩) (hcd : codeIn G.K cdv qual = true)
    (hb : ∀ us : List Value, us.length = vs.length → bindArgs (fnOf name qual params body scope dV kV doc pm an cdv ct) ⟨us, []⟩ = pure (xs.zip us))
    (hkx : (xs.all fun y => scope.names.lookup y == some .local) = true)
    (hnc : cellNames scope = []) (hco : scope.isCoroutine = false) (hgen : scope.isGenerator = false) (hk : scope.kind = .function) (hloc : bindLM (scope.names.lookup ·) (xs.zip vs) [] = loc)
    (h : ∀ cx : Cx, cx.scope = scope → cx.cells = [] → WF G n cx body loc σ fun f _ σ' => ∃ v, f = .ret v ∧ P v σ') :
    OCall G (n + 1) (.top (.ref f)) vs σ P := by
  intro A fr L ρ loc' us₀ s Q hA hrel hus₀ hQ
  match us₀, hus₀ with
  | uf :: us, ⟨hf, hus⟩ =>
  cases hf
  have hcells : ∀ k, (cellsFrom k scope.names []).map (·.1) = cellNames scope := fun k => cellsFrom_names _ _ _ _ _ rfl
  refine wpAny_call (codeAny_call_cells (fd := fnOf name qual params body scope dV kV doc pm an cdv ct) (body := body) (binds := xs.zip us) (Nat.lt_of_le_of_lt (Nat.le_add_right _ _) hA.depth) (hrel.base _ _ (G.X _ _ ho)) rfl (G.T.nolimit.keeps hrel.base)
    (codeRec_of (G.X.keeps hrel.base) hcd) rfl (hb us hus.length) rfl (fun x hx => ?_) ?_ hco hgen hk)
  · have hx' := (List.of_mem_zip (a := x.1) (b := x.2) hx).1
    have := List.all_eq_true.mp hkx _ hx'
    exact .inl (by simpa using this)
  · intro s₁ hin
    obtain ⟨h₁, t₁, rfl⟩ := hin.toInCall.same
    have ec : (callEnvC (fnOf name qual params body scope dV kV doc pm an cdv ct) s.heap.objs.size f).cells = [] := by
      have : ((callEnvC (fnOf name qual params body scope dV kV doc pm an cdv ct) s.heap.objs.size f).cells).map (·.1) = [] := (hcells _).trans hnc
      exact List.map_eq_nil_iff.mp this
    have ent := hrel.enter (env := callEnvC (fnOf name qual params body scope dV kV doc pm an cdv ct) s.heap.objs.size f) (L' := s.heap.objs.size) (xs := xs) hus rfl rfl (by show scope.kind ≠ .module; rw [hk]; decide)
      hin.toInCall.ns hin.toInCall.keep hin.cell hin.apart hin.above (by rw [ec]; exact List.nodup_nil)
    rw [ec] at ent
    simp only [List.map_nil, List.append_nil] at ent
    have ent' : Rel G (callEnvC (fnOf name qual params body scope dV kV doc pm an cdv ct) s.heap.objs.size f :: fr) s.heap.objs.size ρ loc σ h₁ := by
      rw [← hloc]; exact ent
    refine wpAny_mono (h ⟨scope, []⟩ rfl rfl (A.deeper (callEnvC (fnOf name qual params body scope dV kV doc pm an cdv ct) s.heap.objs.size f)) fr (callEnvC (fnOf name qual params body scope dV kV doc pm an cdv ct) s.heap.objs.size f) s.heap.objs.size ρ _
      (fun fl s' => match fl with | .ret v => Q v s' | _ => False) ⟨hA.handled, ?_, ?_, ?_⟩ rfl ⟨rfl, rfl, rfl, rfl, fun _ _ e => by cases e⟩ ent' ?_) (fun fl s' hq => ?_) fun _ _ x => x.elim
    · have := hA.depth
      show A.depth + 1 + n < _
      lia
    · have := hA.units
      show A.units + 3 + 16 * n + 8 < _
      lia
    · show A.frames.map _ = _
      rw [hA.frames]; rfl
    · rintro ρ' fl vfl loc'' σ' h' t' S R r ⟨v, rfl, hP⟩
      obtain ⟨vv, rfl, rv⟩ := R
      obtain ⟨S', r'⟩ := hrel.leave (env := callEnvC (fnOf name qual params body scope dV kV doc pm an cdv ct) s.heap.objs.size f) rfl rfl hin.toInCall.keep List.prefix_rfl (fun a ha hn => absurd ha hn) S r
      exact hQ ρ' v vv σ' h' t' S' rv r' hP
    · cases fl with
      | ret v => exact hq
      | next => exact hq.elim
      | brk => exact hq.elim
      | cont => exact hq.elim

theorem stop_exc : isSubtype (.type "StopIteration") (.type "BaseException") = pure true := by rw [isSubtype_type]; kernel_rfl
theorem stop_notTuple : isSubtype (.type ((Manifest.find? "StopIteration").elim "type" fun y => y.metatype)) (.type "tuple") = pure false := by
  have : ((Manifest.find? "StopIteration").elim "type" fun y => y.metatype) = "type" := by kernel_rfl
  rw [this, isSubtype_type]; kernel_rfl

noncomputable def Stops (G : Gl) (n : Nat) (cx : Cx) (st : Stmt) (q : Nat) (loc : Loc) (σ : List MO) : Prop :=
  ∀ (A : Around) (fr : List Env) (env : Env) (L : Addr) (ρ : List Addr) (I : Addr) (s : Shared) (Q : Flow → Shared → Prop) (E : Value → Shared → Prop), OkA n (env :: fr) A → env.frame = some L → Act cx ρ L env → Rel G (env :: fr) L ρ loc σ s.heap → ρ[q]? = some I →
    (∀ h' tk e base a0, Heap.FlyingW base (env :: fr) e (.type "StopIteration") a0 h' → KeptBut (env :: fr) I s.heap h' → (∀ b o, s.heap.get? b = some o → b ≠ I → b ∉ frs (env :: fr) → base.get? b = some o) → (∃ o, base.get? I = some o) → (∀ b ∈ frs (env :: fr), base.get? b = none) → E (.ref e) { s with heap := h', toks := tk }) →
    wpAny (model G.prog G.w) A (exec st env) Q E s

theorem WF.tryStop {test : Expr} {st : Stmt} {xf : Str} {wp np p1 p2 hp tp : Pos} {q : Nat} {P : MF → Loc → List MO → Prop} (hk : cx.scope.kind = .function) (hsx : cx.scope.names.lookup (Str.ofString "StopIteration") = some .globalImplicit) (hxf : cx.scope.names.lookup xf = some .local) (hxd : (xf == ("__debug__" : Str)) = false)
    (hg : nsIn G.K mainGlobals (Str.ofString "StopIteration") = some none) (hv : bootBuiltins (Str.ofString "StopIteration") = some (.type "StopIteration"))
    (J : Nat → Loc → List MO → Prop) (htest : ∀ m loc σ, J m loc σ → WB G n cx test loc σ fun b σ₁ => b = true ∧ σ₁ = σ)
    (turn : ∀ m loc σ, J (m + 1) loc σ → WS G n cx st loc σ fun f l s => f = .next ∧ J m l s) (stop : ∀ loc σ, J 0 loc σ → Stops G n cx st q loc σ ∧ ∃ mo, σ[q]? = some mo)
    (fin : ∀ loc σ, J 0 loc σ → ∃ v, loc.lookup xf = some v ∧ P (.ret v) loc (σ.set q .gone)) (m : Nat) (h0 : J m loc σ) :
    WF G n cx [.Try [.While test [st] [] wp] [.ExceptHandler (some (.Name (Str.ofString "StopIteration") np)) none [.Return (some (.Name xf p1)) p2] hp] [] [] tp] loc σ P := by
  intro A fr env L ρ s Q hA hf hact hrel hQ
  refine wpAny_execs_cons (wpAny_Try_except (wpAny_execs_cons (wpAny_While (codeAny_whileLoop (fun j s' => ∃ ρ' loc' σ' h' tk', s' = { s with heap := h', toks := tk' } ∧ Step (env :: fr) ρ ρ' L s.heap h' ∧ Rel G (env :: fr) L ρ' loc' σ' h' ∧ J j loc' σ') ?_ m ⟨ρ, loc, σ, s.heap, s.toks, rfl, .refl, hrel, h0⟩))))
  rintro j _ ⟨ρ', loc', σ', h', tk', rfl, S', rel', hJ⟩
  refine toE (htest j loc' σ' hJ A (env :: fr) env L ρ' _ _ hA (hact.mono S'.pre) rel' ?_)
  rintro ρ₁ b vb _ σ₁ h₁ t₁ S₁ R₁ rel₁ ⟨rfl, rfl, rfl⟩
  cases R₁
  rw [if_pos rfl]
  have Sa := S'.trans S₁
  cases j with
  | succ j =>
    refine wpAny_execs_cons (toE (turn j _ _ hJ A (env :: fr) env L ρ₁ _ _ hA (hact.mono Sa.pre) rel₁ ?_))
    rintro ρ₂ f vf loc₂ σ₂ h₂ t₂ S₂ R₂ rel₂ ⟨rfl, hJ₂⟩
    cases R₂
    exact wpAny_execs_nil ⟨j, Nat.lt_succ_self _, ρ₂, loc₂, σ₂, h₂, t₂, rfl, Sa.trans S₂, rel₂, hJ₂⟩
  | zero =>
    obtain ⟨hst, mo, hmo⟩ := stop _ _ hJ
    obtain ⟨I, oI, eI, hoI, -⟩ := rel₁.obj hmo
    refine wpAny_execs_cons (hst A fr env L ρ₁ I _ _ _ hA hf (hact.mono Sa.pre) rel₁ eI ?_)
    intro h₂ t₂ e base a0 fl₂ kb₂ tob hIb hfb
    refine wpAny_look_again (SameStack.mark A none) ?_
    refine wpAny_looks_onW hA.frames hf fl₂ fun h₄ held₄ u₄ => ?_
    refine wpAny_landsW held₄ fun h₅ fl₅ u₅ => ?_
    obtain ⟨oe₅, he₅, hc₅⟩ := fl₅.there
    have hk' : env.scope.kind = .function := hact.kind hk
    have keepB : ∀ b o, G.H₀.get? b = some o → base.get? b = some o := fun b o e => by
      have h1 := rel₁.base b o e
      refine tob b o h1 (fun x => ?_) fun hm => ?_
      · have := rel₁.lo I (List.mem_of_getElem? eI); rw [← x, e] at this; cases this
      · have := (rel₁.ff.mem hm).1; rw [e] at this; cases this
    refine wpAny_handleBy_builtin (X := "StopIteration") (T := "StopIteration") (b := true) stop_exc stop_notTuple isSubtype_stop ?_
    refine wpAny_Name (ks_loadName_global hk' (hact.kindOf hsx) (loadGlobal_builtin (env := env) (by rw [hact.glob]; exact G.T.g.keeps fun b o e => fl₅.1 b o (keepB b o e)) (mg_none_of G.X G.T.g hg) (by rw [hact.blt]; exact G.T.b.keeps fun b o e => fl₅.1 b o (keepB b o e)) ((G.T.builtins _ (by decide)).trans hv) ?_)) (by decide)
    refine ⟨rfl, ⟨oe₅, he₅, hc₅⟩, ?_⟩
    rw [if_pos rfl]
    refine lands_againW fl₅ fun h₆ fl₆ u₆ => ?_
    have up : h₂.UpToSlots h₆ := u₄.trans (u₅.trans u₆)
    obtain ⟨oIb, hIb⟩ := hIb
    have kb : KeptBut (env :: fr) I h₁ h₆ := ⟨fun b o hb1 hb2 e => fl₆.1 b o (tob b o e hb1 hb2), fun b o hb e => by
      obtain ⟨sl, e2⟩ := kb₂.2.1 b o hb e
      obtain ⟨sl', e3⟩ := up b { o with slots := sl } e2 (fun vs => frame_dict rel₁.ff hb e vs)
      exact ⟨sl', e3⟩, ⟨_, fl₆.1 I oIb hIb⟩⟩
    have rel₆ := rel₁.keptBut eI kb
    obtain ⟨v, hlv, hP⟩ := fin _ _ hJ
    obtain ⟨mL, hnL, hmL⟩ := rel₆.ns
    obtain ⟨u, hu, ru⟩ := hmL xf v hlv
    have hIm : I ∈ ρ₁ := List.mem_of_getElem? eI
    have S₆ : Step (env :: fr) ρ₁ ρ₁ L h₁ h₆ := ⟨List.prefix_rfl, fun b o hb hL e => by
      have hbI : b ≠ I := fun x => hb (x ▸ hIm)
      by_cases hm : b ∈ frs (env :: fr)
      · obtain ⟨sl, e'⟩ := kb.2.1 b o hm e
        exact ⟨_, e', .inr ⟨hm, sl, rfl⟩⟩
      · exact ⟨o, kb.1 b o hbI hm e, .inl rfl⟩, fun a ha hn => absurd ha hn, id⟩
    refine wpAny_execs_cons (wpAny_Return_some (wpAny_Name (wpAny_loadName_local hk' (hact.kindOf hxf) (by rw [hact.loc]; exact hnL) hu ?_) hxd))
    exact hQ ρ₁ (.ret v) _ _ _ h₆ _ (Sa.trans S₆) ⟨u, rfl, ru⟩ rel₆ hP
end
end Mine

namespace Mine

noncomputable def CellsAt (σ : List MO) (a n : Nat) : Prop := ∀ m, a < m → m ≤ a + n → ∃ v, σ[m]? = some (.cell v)
noncomputable def KeptC (a n : Nat) (σ σ' : List MO) : Prop := ∀ m, m < σ.length → (m ≤ a ∨ a + n < m) → σ'[m]? = σ[m]?
theorem KeptC.of_pre {a n : Nat} {σ σ' : List MO} (h : σ <+: σ') : KeptC a n σ σ' := fun m hm _ => by
  rw [pget h (List.getElem?_eq_getElem hm), List.getElem?_eq_getElem hm]
theorem CellsAt.none {σ : List MO} {a : Nat} : CellsAt σ a 0 := fun m h1 h2 => by lia
theorem CellsAt.pre {σ σ' : List MO} {a n : Nat} (h : CellsAt σ a n) (p : σ <+: σ') : CellsAt σ' a n := fun m h1 h2 => let ⟨v, e⟩ := h m h1 h2; ⟨v, pget p e⟩

theorem LIs.lt {σ : List MO} {ks : List Nat} {nss : List (List Int)} (h : LIs σ ks nss) : ∀ k ∈ ks, k < σ.length := by
  induction h with
  | nil => intro k hk; cases hk
  | cons h1 _ ih =>
    intro k hk
    rcases List.mem_cons.mp hk with rfl | hk
    · exact (List.getElem?_eq_some_iff.mp h1).1
    · exact ih k hk
theorem LIs.turn {σ σ' : List MO} : ∀ {ks : List Nat} {nss : List (List Int)} {i k : Nat} {ns : List Int}, LIs σ ks nss → ks.Nodup → ks[i]? = some k → (∀ j, j ≠ k → σ'[j]? = σ[j]?) → LI σ' k ns → LIs σ' ks (nss.set i ns)
  | _, _, i, k, ns, .nil, _, hk, _, _ => by cases hk
  | _, _, 0, k, ns, .cons (k := k0) (ks := ks) h1 hs, hnd, hk, hkeep, hn => by
    cases hk
    rw [List.set_cons_zero]
    rw [List.nodup_cons] at hnd
    refine .cons hn (hs.mono fun m hm ns' h => ?_)
    unfold LI at h ⊢
    rw [hkeep m (fun e => hnd.1 (e ▸ hm))]; exact h
  | _, _, i + 1, k, ns, .cons (k := k0) (ks := ks) h1 hs, hnd, hk, hkeep, hn => by
    rw [List.getElem?_cons_succ] at hk
    rw [List.nodup_cons] at hnd
    rw [List.set_cons_succ]
    refine .cons ?_ (LIs.turn hs hnd.2 hk hkeep hn)
    unfold LI at h1 ⊢
    rw [hkeep k0 (fun e => hnd.1 (e ▸ List.mem_of_getElem? hk))]; exact h1

section
variable {G : Gl} {n : Nat} {cx : Cx} {loc : Loc} {σ : List MO}

theorem WS.assignA {x : Str} {p pos : Pos} {e : Expr} {P : MF → Loc → List MO → Prop} (h : WE G n cx e loc σ fun v σ₁ => WN G n cx x v loc σ₁ fun l σ₂ => P .next l σ₂)
    (hs : ∀ env ρ L, Act cx ρ L env → swapsWith e (some (.Name x p)) pos.line env = pure false) : WS G n cx (.Assign [.Name x p] e pos) loc σ P := by
  intro A fr env L ρ s Q hA hact hrel hQ
  refine wpAny_Assign_Name (h A fr env L ρ s _ hA hact hrel ?_) (hs env ρ L hact)
  rintro ρ₁ v vv _ σ₁ h₁ t₁ S₁ R₁ rel₁ ⟨rfl, hP₁⟩
  refine hP₁ A fr env L ρ₁ vv _ _ hA (hact.mono S₁.pre) rel₁ R₁ ?_
  intro loc₂ σ₂ h₂ t₂ S₂ rel₂ hP₂
  exact hQ ρ₁ .next _ loc₂ σ₂ h₂ t₂ (S₁.trans S₂) rfl rel₂ hP₂
theorem noswap_cell {x : Str} {p : Pos} {line : Nat} {elt : Expr} {gens : List Comprehension} {scope : Scope} {pos : Pos} (hx : cx.scope.names.lookup x = some .cell) : ∀ env ρ L, Act cx ρ L env → swapsWith (.ListComp elt gens scope pos) (some (.Name x p)) line env = pure false := by
  intro env ρ L hact
  show (pure (env.blockKind == .function && env.kindOf x == some .local && p.line == pos.line && !(scope.names.any fun (n, k) => n == x && (k == .local || k == .cell))) : Sem Bool) = pure false
  rw [hact.kindOf hx]
  have : ((some NameKind.cell) == some NameKind.local) = false := by decide
  rw [this]
  simp

theorem CompFrom.objs {scope : Scope} {t : Expr} {elt : Expr} {P : Nat → List MO → Prop} {v : MV} {xs : List MV} {ok : List MO → Prop} (src : Src G n v xs ok σ) (hok : ∀ σ', σ <+: σ' → ok σ') (hxs : xs.length ≤ 1000000) (g : Nat → List Int)
    (turn : ∀ (cx' : Cx) i x loc σ', cx' = compCx scope cx (σ.length + 1) → xs[i]? = some x → σ <+: σ' → CellsAt σ' σ.length (cellNames scope).length → σ.length + (cellNames scope).length < σ'.length →
      WA G n cx' t x loc σ' fun loc₁ σ₂ => WE G n cx' elt loc₁ σ₂ fun v σ₄ => ∃ j, v = .obj j ∧ σ <+: σ₄ ∧ KeptC σ.length (cellNames scope).length σ' σ₄ ∧ CellsAt σ₄ σ.length (cellNames scope).length ∧ σ'.length ≤ j ∧ LI σ₄ j (g i))
    (fin : ∀ σ' ks, σ <+: σ' → σ'[σ.length]? = some (.list (ks.map .obj)) → LIs σ' ks ((List.range xs.length).map g) → ks.Nodup → (∀ k ∈ ks, σ.length < k) → P σ.length σ') : CompFrom G n cx scope t [] (emitT elt) P v σ := by
  have p : σ <+: σ ++ [MO.list []] ++ (cellNames scope).map fun _ => MO.cell none := by
    rw [List.append_assoc]; exact List.prefix_append _ _
  have hlen0 : (σ ++ [MO.list []] ++ (cellNames scope).map fun _ => MO.cell none).length = σ.length + 1 + (cellNames scope).length := by simp; lia
  generalize hnc : (cellNames scope).length = nc at turn hlen0
  have hys0 : (σ ++ [MO.list []] ++ (cellNames scope).map fun _ => MO.cell none)[σ.length]? = some (.list []) := by
    rw [List.append_assoc, List.getElem?_append_right (Nat.le_refl _)]
    simp
  have hcells0 : CellsAt (σ ++ [MO.list []] ++ (cellNames scope).map fun _ => MO.cell none) σ.length nc := by
    intro m h1 h2
    refine ⟨none, ?_⟩
    rw [List.getElem?_append_right (by simp; lia), List.getElem?_map, List.getElem?_eq_getElem (by simp; lia)]
    rfl
  refine ⟨xs, ok, src, hok _ p, ?_⟩
  generalize (σ ++ [MO.list []] ++ (cellNames scope).map fun _ => MO.cell none) = σ₀ at p hlen0 hys0 hcells0
  refine compChain_map (k := σ.length) (by lia) (fun i ys σ' => σ <+: σ' ∧ CellsAt σ' σ.length nc ∧ σ.length + nc < σ'.length ∧ ∃ ks, ys = ks.map .obj ∧ LIs σ' ks ((List.range i).map g) ∧ ks.Nodup ∧ (∀ k ∈ ks, σ.length + nc < k) ∧ ks.length = i) ?_ ?_ ⟨p, hcells0, by lia, [], rfl, .nil, List.nodup_nil, (fun _ h => by cases h), rfl⟩ hys0 (hok _ p)
  · rintro i x ys loc σ' hx ho hys ⟨hp, hc, hl, ks, rfl, hks, hnd, hge, hkl⟩
    have hi : i < xs.length := (List.getElem?_eq_some_iff.mp hx).1
    intro A fr env L ρ u s Q hA hact hrel hu hQ
    refine turn _ i x loc σ' rfl hx hp hc hl A fr env L ρ u s Q hA hact hrel hu ?_
    intro ρ' loc₁ σ₂ h' tk' S r q
    refine hQ ρ' loc₁ σ₂ h' tk' S r ?_
    refine ⟨fun _ => WE.mono q ?_, fun h => by cases h⟩
    rintro v σ₄ ⟨j, rfl, p₄, k₄, c₄, hj, hLj⟩
    have e4 : σ₄[σ.length]? = some (.list (ks.map .obj)) := (k₄ _ (by lia) (.inl (Nat.le_refl _))).trans hys
    have hj4 : j < σ₄.length := (List.getElem?_eq_some_iff.mp hLj).1
    have hpre : σ <+: σ₄.set σ.length (.list (ks.map .obj ++ [.obj j])) := by
      obtain ⟨u, hu⟩ := p₄
      subst hu
      rw [List.set_append_right _ _ (Nat.le_refl _)]
      exact List.prefix_append _ _
    refine ⟨e4, by simp; lia, hok _ hpre, hpre, fun m h1 h2 => ?_, by simp; lia, ks ++ [j], by simp, ?_, ?_, ?_, by simp [hkl]⟩
    · rw [List.getElem?_set_ne (by lia)]; exact c₄ m h1 h2
    · rw [List.range_succ, List.map_append]
      have hset : ∀ m, m ≠ σ.length → (σ₄.set σ.length (.list (ks.map .obj ++ [.obj j])))[m]? = σ₄[m]? := fun m hm => List.getElem?_set_ne (Ne.symm hm)
      refine LIs.snoc (hks.mono fun k hk ns h => ?_) ?_
      · have := hge k hk
        have h2 := hks.lt k hk
        unfold LI at h ⊢
        rw [hset k (by lia), k₄ k h2 (.inr this)]; exact h
      · unfold LI at hLj ⊢
        rw [hset j (by lia)]; exact hLj
    · rw [List.nodup_append]
      refine ⟨hnd, by simp, fun a ha b hb => ?_⟩
      rw [List.mem_singleton.mp hb]
      have := hks.lt a ha
      lia
    · intro k hk
      rcases List.mem_append.mp hk with h | h
      · exact hge k h
      · rw [List.mem_singleton.mp h]; lia
  · rintro loc ys σ' ho hys ⟨hp, hc, hl, ks, rfl, hks, hnd, hge, hkl⟩
    exact fin σ' ks hp hys hks hnd fun k hk => by have := hge k hk; lia
end
end Mine

namespace Mine

section
variable {G : Gl}

theorem Rel.start {s : Shared} {env : Env} {L' : Addr} {cs : List (Str × Addr)} {xs : List Str} {vs : List MV} {us : List Value} {h₁ : Heap} {kd : Str → Option NameKind}
    (hH : G.H₀ = s.heap) (hus : RVs [] vs us) (hL' : L' = s.heap.objs.size) (hfr : env.frame = some L') (hkind : env.scope.kind ≠ .module)
    (hn : h₁.Ns L' (bindL kd (xs.zip us) fun _ => none)) (hk : ∀ b o, s.heap.get? b = some o → h₁.get? b = some o)
    (hc : ∀ x c, cs.lookup x = some c → h₁.IsCell c (bindC kd (xs.zip us) (fun _ => none) x)) (hap : cs.Pairwise fun x y => x.2 ≠ y.2) (hab : ∀ x c, (x, c) ∈ cs → L' < c) (hnd : (cs.map (·.1)).Nodup) :
    Rel G [env] L' (cs.map (·.2)) (bindLM kd (xs.zip vs) []) ((cs.map (·.1)).map fun c => .cell (bindCM kd (xs.zip vs) (fun _ => none) c)) h₁ := by
  have hbase : ∀ a, s.heap.objs.size ≤ a → G.H₀.get? a = none := fun a ha => by
    cases e : G.H₀.get? a with
    | none => rfl
    | some o => rw [hH] at e; exact absurd (Heap.lt_size e) (Nat.not_lt.mpr ha)
  have hcs : ∀ a ∈ cs.map (·.2), s.heap.objs.size < a := fun a ha => by
    obtain ⟨⟨x, c⟩, hm, rfl⟩ := List.mem_map.mp ha
    have := hab x c hm
    rw [hL'] at this; exact this
  have hle : s.heap.objs.size ≤ L' := Nat.le_of_eq hL'.symm
  refine ⟨fun b o e => hk b o (by rw [← hH]; exact e), by simp, ?_, fun a ha => hbase a (Nat.le_of_lt (hcs a ha)), fun hm => Nat.lt_irrefl _ (hL' ▸ hcs L' hm), hbase L' hle, ?_, ⟨_, hn, ?_⟩, .cons hkind hfr hn (hbase L' hle) trivial, ?_⟩
  · rw [List.nodup_iff_pairwise_ne, List.pairwise_map]
    exact hap
  · intro k mo a e1 e2
    rw [List.getElem?_map, List.getElem?_map, Option.map_eq_some_iff] at e1
    obtain ⟨x, e1, rfl⟩ := e1
    rw [Option.map_eq_some_iff] at e1
    obtain ⟨⟨x', c⟩, e1, rfl⟩ := e1
    rw [List.getElem?_map, e1] at e2
    simp at e2
    subst e2
    obtain ⟨o, ho, hd⟩ := hc x' c (lookup_of_mem_nodup hnd (List.mem_of_getElem? e1))
    refine ⟨o, ho, ?_⟩
    have r := bindC_rel (kd := kd) xs vs us (fun _ => none) (fun _ => none) hus (fun _ => rfl) x'
    show RO _ (.cell (bindCM kd (xs.zip vs) (fun _ => none) x')) o
    cases e : bindCM kd (xs.zip vs) (fun _ => none) x' with
    | none => rw [e] at r; rw [r] at hd; exact hd
    | some mv =>
      rw [e] at r
      obtain ⟨v, e', r⟩ := r
      rw [e'] at hd
      exact ⟨v, hd, r.mono (List.nil_prefix)⟩
  · intro x v hx
    obtain ⟨v', e, r⟩ := bindL_rel (kd := kd) xs vs us [] (fun _ => none) hus (fun _ _ h => by cases h) x v hx
    exact ⟨v', e, r.mono (List.nil_prefix)⟩
  · intro b hb hm
    have : b = L' := by
      simp only [frs, List.filterMap_cons, hfr, List.filterMap_nil] at hb
      exact List.mem_singleton.mp hb
    subst this
    exact Nat.lt_irrefl _ (hL' ▸ hcs _ hm)

theorem run_top {n : Nat} {f : Addr} {oc : Value} {od : Option Addr} {osl : Array (Option Value)} {name qual : Str} {params : Arguments} {body : List Stmt} {scope : Scope} {dV kV doc pm cdv ct : Value} {an : Option Addr} (xs : List Str) {vs : List MV} {us : List Value} {loc : Loc} {cn : List Str} {cs : List MO} {s : Shared} {R : Result → Shared → Prop}
    (ho : G.K.lookup f = some ⟨oc, od, .func (fnOf name qual params body scope dV kV doc pm an cdv ct), osl⟩) (hcd : codeIn G.K cdv qual = true)
    (hb : bindArgs (fnOf name qual params body scope dV kV doc pm an cdv ct) ⟨us, []⟩ = pure (xs.zip us))
    (hkx : (xs.all fun y => scope.names.lookup y == some .local || (scope.names.lookup y == some .cell && ((cellsFrom 0 scope.names []).lookup y).isSome)) = true)
    (hnc : cellNames scope = cn) (hnd : cn.Nodup) (hco : scope.isCoroutine = false) (hgen : scope.isGenerator = false) (hk : scope.kind = .function) (hloc : bindLM (scope.names.lookup ·) (xs.zip vs) [] = loc)
    (hcs : (cn.map fun c => MO.cell (bindCM (scope.names.lookup ·) (xs.zip vs) (fun _ => none) c)) = cs) (hH : G.H₀ = s.heap) (hus : RVs [] vs us) (hd : callerA.depth + 1 + n < recursionLimit) (hu : callerA.units + 3 + 16 * n + 8 < cLine)
    (h : ∀ cx : Cx, cx.scope = scope → cx.cells = idx cn 0 → WX G n cx body loc cs fun f _ σ' => f = .ret (.bool true))
    (hR : ∀ h' tk, (∀ b o, s.heap.get? b = some o → h'.get? b = some o) → R (.ok (.ret (.bool true))) { s with heap := h', toks := tk }) : codeAny (model G.prog G.w) callerA (.call (.ref f) ⟨us, []⟩) R s := by
  have hcells : ∀ k, (cellsFrom k scope.names []).map (·.1) = cellNames scope := fun k => cellsFrom_names _ _ _ _ _ rfl
  have hsome : ∀ (cs cs' : List (Str × Addr)) (y : Str), cs.map (·.1) = cs'.map (·.1) → ((cs.lookup y).isSome = true) → (cs'.lookup y).isSome = true := by
    intro cs
    induction cs with
    | nil => intro cs' y e h; cases h
    | cons c cs ih =>
      intro cs' y e h
      match cs', e with
      | c' :: cs', e =>
        simp only [List.map_cons, List.cons.injEq] at e
        obtain ⟨a, b⟩ := c
        obtain ⟨a', b'⟩ := c'
        simp only [List.lookup_cons] at h ⊢
        cases e.1
        cases q : y == a with
        | true => rfl
        | false => rw [q] at h; exact ih cs' y e.2 h
  have hbase : ∀ b o, G.H₀.get? b = some o → s.heap.get? b = some o := fun b o e => by rw [← hH]; exact e
  refine codeAny_call_cells (fd := fnOf name qual params body scope dV kV doc pm an cdv ct) (body := body) (binds := xs.zip us) (Nat.lt_of_le_of_lt (Nat.le_add_right _ _) (show callerA.depth + (1 + n) < _ by lia)) (hbase _ _ (G.X _ _ ho)) rfl (G.T.nolimit.keeps hbase)
    (codeRec_of (G.X.keeps hbase) hcd) rfl hb rfl (fun x hx => ?_) ?_ hco hgen hk
  · have hx' := (List.of_mem_zip (a := x.1) (b := x.2) hx).1
    have := List.all_eq_true.mp hkx _ hx'
    rcases Bool.or_eq_true_iff.mp this with q | q
    · exact .inl (by simpa using q)
    · obtain ⟨q1, q2⟩ := Bool.and_eq_true_iff.mp q
      exact .inr ⟨by simpa using q1, hsome _ _ _ (by rw [hcells, hcells]) q2⟩
  · intro s₁ hin
    obtain ⟨h₁, t₁, rfl⟩ := hin.toInCall.same
    have ecs : (callEnvC (fnOf name qual params body scope dV kV doc pm an cdv ct) s.heap.objs.size f).cells.map (·.1) = cn := (hcells _).trans hnc
    have ent := Rel.start (env := callEnvC (fnOf name qual params body scope dV kV doc pm an cdv ct) s.heap.objs.size f) (L' := s.heap.objs.size) (xs := xs) hH hus rfl rfl (by show scope.kind ≠ .module; rw [hk]; decide)
      hin.toInCall.ns hin.toInCall.keep hin.cell hin.apart hin.above (by rw [ecs]; exact hnd)
    rw [ecs] at ent
    have ent' : Rel G [callEnvC (fnOf name qual params body scope dV kV doc pm an cdv ct) s.heap.objs.size f] s.heap.objs.size ((callEnvC (fnOf name qual params body scope dV kV doc pm an cdv ct) s.heap.objs.size f).cells.map (·.2)) loc cs h₁ := by
      rw [← hloc, ← hcs]; exact ent
    refine wpAny_mono (h ⟨scope, idx cn 0⟩ rfl rfl (callerA.deeper (callEnvC (fnOf name qual params body scope dV kV doc pm an cdv ct) s.heap.objs.size f)) [callEnvC (fnOf name qual params body scope dV kV doc pm an cdv ct) s.heap.objs.size f] (callEnvC (fnOf name qual params body scope dV kV doc pm an cdv ct) s.heap.objs.size f) s.heap.objs.size _ _
      (fun fl s' => match fl with | .ret v => R (.ok (.ret v)) s' | _ => False) ⟨rfl, ?_, ?_, rfl⟩ ⟨rfl, rfl, rfl, rfl, ?_⟩ ent' ?_) (fun fl s' hq => ?_) fun _ _ x => x.elim
    · exact hd
    · exact hu
    · intro x k hx
      dsimp only at hx
      rw [← ecs] at hx
      obtain ⟨a, h1, h2, h3⟩ := idx_lookup hx
      exact ⟨a, h2, h3⟩
    · rintro ρ' fl vfl loc' σ' h' t' S R' r rfl
      obtain ⟨vv, rfl, rv⟩ := R'
      cases rv
      exact hR h' t' fun b o e => r.base b o (by rw [hH]; exact e)
    · cases fl with
      | ret v => exact hq
      | next => exact hq.elim
      | brk => exact hq.elim
      | cont => exact hq.elim
end
end Mine

namespace Mine
open PySem.Sre (M)

theorem runFor_done {m : M} (h : m.outcome.isSome = true) : ∀ k, M.runFor k m = m
  | 0 => rfl
  | k + 1 => by unfold M.runFor; rw [if_pos h]
theorem runFor_add (b : Nat) : ∀ (a : Nat) (m : M), M.runFor (a + b) m = M.runFor b (M.runFor a m)
  | 0, m => by rw [Nat.zero_add]; rfl
  | a + 1, m => by
    rw [show a + 1 + b = (a + b) + 1 by lia]
    show (if m.outcome.isSome = true then m else M.runFor (a + b) m.step) = M.runFor b (if m.outcome.isSome = true then m else M.runFor a m.step)
    cases h : m.outcome.isSome
    · rw [if_neg (by simp), if_neg (by simp)]; exact runFor_add b a m.step
    · rw [if_pos rfl, if_pos rfl, runFor_done h]

noncomputable def Ends (B : Nat) (m : M) (P : M → Prop) : Prop := ∃ j m', j ≤ B ∧ M.runFor j m = m' ∧ m'.outcome.isSome = true ∧ P m'
theorem Ends.step {B : Nat} {m m₁ : M} {P : M → Prop} (h : m.step = m₁) (ho : m.outcome = none) (hE : Ends B m₁ P) : Ends (B + 1) m P := by
  obtain ⟨j, m', hj, hr, hs, hP⟩ := hE
  refine ⟨j + 1, m', by lia, ?_, hs, hP⟩
  unfold M.runFor
  rw [if_neg (by rw [ho]; simp), h]; exact hr
theorem Ends.done {m : M} {P : M → Prop} (h : m.outcome.isSome = true) (hP : P m) : Ends 0 m P := ⟨0, m, Nat.le_refl _, rfl, h, hP⟩
theorem Ends.mono {B B' : Nat} {m : M} {P P' : M → Prop} (h : Ends B m P) (hB : B ≤ B') (hP : ∀ m, P m → P' m) : Ends B' m P' := by
  obtain ⟨j, m', hj, hr, hs, hp⟩ := h
  exact ⟨j, m', by lia, hr, hs, hP _ hp⟩

theorem drive {M' : Model} {A : Around} {E : Value → Shared → Prop} {s : Shared} {Q : M → Shared → Prop} {P : M → Prop} : ∀ (turns B : Nat) (m : M), Ends B m P → B ≤ 4 * turns → 0 < turns → (∀ m', m'.outcome.isSome = true → P m' → Q m' s) → wpAny M' A (Builtin.Re.reDrive turns m) Q E s
  | 0, _, _, _, _, h, _ => absurd h (Nat.lt_irrefl _)
  | t + 1, B, m, ⟨j, m', hj, hr, hs, hP⟩, hB, _, hQ => by
    unfold Builtin.Re.reDrive
    show wpAny M' A (if (M.runFor 4 m).outcome.isSome = true then pure (M.runFor 4 m) else (do rule "sre.turn"; Builtin.Re.reDrive t (M.runFor 4 m))) Q E s
    cases h : (M.runFor 4 m).outcome.isSome
    · rw [if_neg (by simp)]
      refine wpAny_bind (wpAny_rule ?_)
      have hj4 : 4 < j := by
        rcases Nat.lt_or_ge 4 j with h' | h'
        · exact h'
        · exfalso
          have : M.runFor 4 m = m' := by rw [show 4 = j + (4 - j) by lia, runFor_add, hr, runFor_done hs]
          rw [this, hs] at h; cases h
      have ht : 0 < t := by lia
      refine drive t (B - 4) (M.runFor 4 m) ⟨j - 4, m', by lia, ?_, hs, hP⟩ (by lia) ht hQ
      rw [← runFor_add, show 4 + (j - 4) = j by lia, hr]
    · rw [if_pos rfl]
      have : M.runFor 4 m = m' := by
        rcases Nat.lt_or_ge 4 j with h' | h'
        · rw [← hr, show j = 4 + (j - 4) by lia, runFor_add, runFor_done h]
        · rw [show 4 = j + (4 - j) by lia, runFor_add, hr, runFor_done hs]
      exact wpAny_pure (hQ _ h (by rw [this]; exact hP))

theorem forIn_rules {M' : Model} {A : Around} {E : Value → Shared → Prop} {s : Shared} {Q : PUnit → Shared → Prop} (c : Nat → Bool) (f : Nat → String) (g : Nat → PUnit → Sem (ForInStep PUnit)) (hg : ∀ i u, g i u = if c i = true then (do rule (f i); pure (ForInStep.yield PUnit.unit)) else pure (ForInStep.yield PUnit.unit)) : ∀ (l : List Nat), Q ⟨⟩ s → wpAny M' A (forIn l PUnit.unit g) Q E s
  | [], h => by rw [List.forIn_nil]; exact wpAny_pure h
  | i :: l, h => by
    rw [List.forIn_cons, hg]
    refine wpAny_bind ?_
    cases c i
    · rw [if_neg (by simp)]; exact wpAny_pure (forIn_rules c f g hg l h)
    · rw [if_pos rfl]; exact wpAny_bind (wpAny_rule (wpAny_pure (forIn_rules c f g hg l h)))

theorem runToEnd {M' : Model} {A : Around} {E : Value → Shared → Prop} {s : Shared} {Q : Option M → Shared → Prop} {P : M → Prop} {B : Nat} {m : M} (hE : Ends B m P) (hB : B ≤ 2 ^ 65)
    (hQ : ∀ m', P m' → (m'.outcome = some .matched ∧ Q (some m') s) ∨ (m'.outcome = some .failed ∧ Q none s)) : wpAny M' A (Builtin.Re.reRunToEnd m) Q E s := by
  unfold Builtin.Re.reRunToEnd
  refine wpAny_bind (drive (2 ^ 64) B m hE (by lia) (by decide) fun m' ho hP => ?_)
  refine wpAny_bind (forIn_rules (fun i => m'.seen.has i) (fun i => Sre.names.getD i "") _ (fun _ _ => rfl) _ ?_)
  rcases hQ m' hP with ⟨e, q⟩ | ⟨e, q⟩ <;> rw [e] <;> exact wpAny_pure q

section
variable {m : M}
theorem stepX (ho : m.outcome = none) (ha : m.answer = none) (hp : m.pc < m.code.size) : m.step = m.exec := by
  unfold M.step
  rw [ho, ha]
  simp only [Option.isSome_none, Bool.false_eq_true, if_false]
  rw [if_pos hp]
theorem step_lit_yes (ho : m.outcome = none) (ha : m.answer = none) (hp : m.pc < m.code.size) (hw : m.word 0 = 16) (hl : m.pos < m.lim) (hc : (m.text.getD m.pos 0 == m.code.getD (m.pc + 1) 0) = true) :
    m.step = { m with seen := m.seen.add 16, pc := m.pc + 2, pos := m.pos + 1 } := by
  rw [stepX ho ha hp]
  have hw' : m.code.getD m.pc 0 = 16 := hw
  unfold M.exec
  rw [hw]
  simp only [show Sre.ops[16]? = some Sre.Op.LITERAL from rfl]
  rw [if_neg (by lia)]
  unfold Sre.accepts Sre.itemWidth
  simp only [hw', show Sre.ops[16]? = some Sre.Op.LITERAL from rfl, hc]
theorem step_lit_no (ho : m.outcome = none) (ha : m.answer = none) (hp : m.pc < m.code.size) (hw : m.word 0 = 16) (hc : m.pos < m.lim → (m.text.getD m.pos 0 == m.code.getD (m.pc + 1) 0) = false) :
    m.step = { m with seen := m.seen.add 16, answer := some false } := by
  rw [stepX ho ha hp]
  have hw' : m.code.getD m.pc 0 = 16 := hw
  unfold M.exec
  rw [hw]
  simp only [show Sre.ops[16]? = some Sre.Op.LITERAL from rfl]
  by_cases hl : m.pos < m.lim
  · rw [if_neg (by lia)]
    unfold Sre.accepts
    simp only [hw', show Sre.ops[16]? = some Sre.Op.LITERAL from rfl, hc hl]
    rfl
  · rw [if_pos (by lia)]; rfl
theorem step_success (ho : m.outcome = none) (ha : m.answer = none) (hp : m.pc < m.code.size) (hw : m.word 0 = 1) (h1 : m.wholeText = false) (h2 : m.mustAdvance = false) :
    m.step = { m with seen := m.seen.add 1, handed := m.pos, answer := some true } := by
  rw [stepX ho ha hp]
  unfold M.exec
  rw [hw]
  simp only [show Sre.ops[1]? = some Sre.Op.SUCCESS from rfl]
  rw [if_neg (by rw [h1, h2]; simp)]
  rfl
theorem step_jump (ho : m.outcome = none) (ha : m.answer = none) (hp : m.pc < m.code.size) (hw : m.word 0 = 15) : m.step = { m with seen := m.seen.add 15, pc := m.pc + 1 + m.code.getD (m.pc + 1) 0 } := by
  rw [stepX ho ha hp]
  unfold M.exec
  rw [hw]
  rfl
theorem step_at1 (ho : m.outcome = none) (ha : m.answer = none) (hp : m.pc < m.code.size) (hw : m.word 0 = 6) (hw1 : m.word 1 = 1) :
    m.step = if (m.pos == 0 || m.text.getD (m.pos - 1) 0 == 10) = true then { m with seen := (m.seen.add 6).add 44, pc := m.pc + 2 } else { m with seen := (m.seen.add 6).add 44, answer := some false } := by
  rw [stepX ho ha hp]
  unfold M.exec
  rw [hw]
  simp only [show Sre.ops[6]? = some Sre.Op.AT from rfl]
  have : ∀ sn, M.isAt { m with seen := sn } (M.word { m with seen := sn } 1) = .ok (m.pos == 0 || m.text.getD (m.pos - 1) 0 == 10) := by
    intro sn
    rw [show M.word { m with seen := sn } 1 = 1 from hw1]
    rfl
  rw [this, show M.word { m with seen := m.seen.add 6 } 1 = 1 from hw1]
  rfl
theorem step_branch (ho : m.outcome = none) (ha : m.answer = none) (hp : m.pc < m.code.size) (hw : m.word 0 = 7) : m.step = M.alternative { m with seen := m.seen.add 7 } (m.pc + 1) (m.keep m.inner.isSome) := by
  rw [stepX ho ha hp]
  unfold M.exec
  rw [hw]
  rfl
theorem step_notahead (ho : m.outcome = none) (ha : m.answer = none) (hp : m.pc < m.code.size) (hw : m.word 0 = 5) (hw2 : m.word 2 = 0) :
    m.step = M.attempt { m with seen := m.seen.add 5 } { (M.frame { m with seen := m.seen.add 5 } .lookNot) with kept := m.keep m.inner.isSome } (m.pc + 3) m.pos false := by
  rw [stepX ho ha hp]
  unfold M.exec
  rw [hw]
  simp only [show Sre.ops[5]? = some Sre.Op.ASSERT_NOT from rfl]
  rw [if_neg (by rw [show M.word { m with seen := m.seen.add 5 } 2 = 0 from hw2]; exact Nat.not_lt_zero _), show M.word { m with seen := m.seen.add 5 } 2 = 0 from hw2]
  simp
  rfl
theorem step_back {f : Sre.Frame} {r : List Sre.Frame} {b : Bool} (ho : m.outcome = none) (ha : m.answer = some b) (hf : m.frames = f :: r) :
    m.step = M.resume { m with answer := none, frames := r, weight := m.weight - (1 + f.kept.marks.size), pc := f.pc, pos := f.pos, outermost := f.outermost } f b := by
  unfold M.step
  rw [ho, ha, hf]
  rfl
theorem step_end {b : Bool} (ho : m.outcome = none) (ha : m.answer = some b) (hf : m.frames = []) : m.step = { m with outcome := some (if b then .matched else .failed) } := by
  unfold M.step
  rw [ho, ha, hf]
  rfl
end
end Mine

namespace Mine
open PySem.Sre (M)

noncomputable def first (c : Nat → Bool) : Nat → Nat → Option Nat
  | 0, _ => none
  | k + 1, s => if c s then some s else first c k (s + 1)
noncomputable def Found (o : Option Nat) (e : Nat → Nat) (m : M) : Prop := match o with
  | some q => m.outcome = some .matched ∧ m.start = q ∧ m.handed = e q
  | none => m.outcome = some .failed

noncomputable def code1 : Array Nat := #[14, 4, 0, 1, 1, 6, 1, 16, 46, 1]
noncomputable def base1 (text : Array Nat) (lim st ps hd : Nat) (om : Bool) (sn : Sre.Seen) (lm li : Int) : M :=
  { code := code1, text := text, lim := lim, start := st, lastStart := lim, pc := 5, pos := ps, handed := hd, outermost := om, marks := #[], lastmark := lm, lastindex := li, seen := sn }
noncomputable def c1 (text : Array Nat) (lim s : Nat) : Bool := (s == 0 || text.getD (s - 1) 0 == 10) && (decide (s < lim) && text.getD s 0 == 46)
noncomputable def lit1 (text : Array Nat) (lim s : Nat) (b : Bool) (sn : Sre.Seen) : M :=
  { code := code1, text := text, lim := lim, start := s, lastStart := lim, pc := 5, pos := s, handed := s, outermost := b, marks := #[], lastmark := -1, lastindex := -1, seen := sn,
    frames := [{ wait := .nextStart, pc := 5, pos := s, outermost := b }], weight := 1 }
theorem attempt1 (text : Array Nat) (lim st ps hd : Nat) (om : Bool) (sn : Sre.Seen) (lm li : Int) (s : Nat) (b : Bool) : (base1 text lim st ps hd om sn lm li).attemptAt s b = lit1 text lim s b sn := rfl
theorem from1 (text : Array Nat) (lim st ps hd : Nat) (om : Bool) (sn : Sre.Seen) (lm li : Int) (s : Nat) (b : Bool) : (base1 text lim st ps hd om sn lm li).attemptFrom s b = lit1 text lim s b sn := rfl

theorem at1 (text : Array Nat) (lim : Nat) : ∀ (k s : Nat) (b : Bool) (sn : Sre.Seen), lim - s = k → s ≤ lim → Ends (4 * k + 6) (lit1 text lim s b sn) (Found (first (c1 text lim) (k + 1) s) (· + 1)) := by
  intro k
  induction k with
  | zero =>
    intro s b sn hk hs
    have hs : s = lim := by lia
    subst hs
    have hc : c1 text s s = false := by unfold c1; simp
    have e0 : first (c1 text s) (0 + 1) s = none := by unfold first; rw [hc]; rfl
    rw [e0]
    have h0 := step_at1 (m := lit1 text s s b sn) rfl rfl (Nat.le_of_ble_eq_true rfl) rfl rfl
    have fin : ∀ (m : M), m.outcome = none → m.answer = some false → (∃ f, m.frames = [f] ∧ f.wait = .nextStart ∧ f.pos = s) → m.lastStart = s → Ends 2 m (Found none (· + 1)) := by
      intro m ho ha ⟨f, hf, hw, hp⟩ hl
      refine Ends.step (step_back ho ha hf) ho ?_
      unfold M.resume
      rw [hw]
      simp only [Bool.false_eq_true, if_false]
      rw [if_neg (by rw [hp]; show ¬ s < m.lastStart; rw [hl]; lia)]
      refine Ends.step (step_end ho rfl rfl) ho ?_
      exact Ends.done rfl rfl
    by_cases hb : (s == 0 || text.getD (s - 1) 0 == 10) = true
    · rw [show (lit1 text s s b sn).pos = s from rfl, show (lit1 text s s b sn).text = text from rfl, if_pos hb] at h0
      refine Ends.mono (Ends.step h0 rfl (Ends.step (step_lit_no rfl rfl (Nat.le_of_ble_eq_true rfl) rfl (fun h => absurd h (Nat.lt_irrefl _))) rfl (fin _ rfl rfl ⟨_, rfl, rfl, rfl⟩ rfl))) (by lia) fun _ h => h
    · rw [show (lit1 text s s b sn).pos = s from rfl, show (lit1 text s s b sn).text = text from rfl, if_neg hb] at h0
      refine Ends.mono (Ends.step h0 rfl (fin _ rfl rfl ⟨_, rfl, rfl, rfl⟩ rfl)) (by lia) fun _ h => h
  | succ k ih =>
    intro s b sn hk hs
    have hlt : s < lim := by lia
    have h0 := step_at1 (m := lit1 text lim s b sn) rfl rfl (Nat.le_of_ble_eq_true rfl) rfl rfl
    have next : ∀ sn', Ends (4 * k + 7) { lit1 text lim s b sn with seen := sn', answer := some false } (Found (first (c1 text lim) (k + 1) (s + 1)) (· + 1)) := by
      intro sn'
      refine Ends.step (m₁ := lit1 text lim (s + 1) false sn') ?_ rfl (ih (s + 1) false sn' (by lia) (by lia))
      rw [step_back (f := { wait := .nextStart, pc := 5, pos := s, outermost := b }) (r := []) rfl rfl rfl]
      unfold M.resume
      simp only [Bool.false_eq_true, if_false]
      rw [if_pos (show s < (lit1 text lim s b sn).lastStart from hlt)]
      rfl
    have next' : ∀ sn', Ends (4 * k + 7) { lit1 text lim s b sn with seen := sn', pc := 7, answer := some false } (Found (first (c1 text lim) (k + 1) (s + 1)) (· + 1)) := by
      intro sn'
      refine Ends.step (m₁ := lit1 text lim (s + 1) false sn') ?_ rfl (ih (s + 1) false sn' (by lia) (by lia))
      rw [step_back (f := { wait := .nextStart, pc := 5, pos := s, outermost := b }) (r := []) rfl rfl rfl]
      unfold M.resume
      simp only [Bool.false_eq_true, if_false]
      rw [if_pos (show s < (lit1 text lim s b sn).lastStart from hlt)]
      rfl
    rw [show (lit1 text lim s b sn).pos = s from rfl, show (lit1 text lim s b sn).text = text from rfl] at h0
    unfold first
    by_cases hb : (s == 0 || text.getD (s - 1) 0 == 10) = true
    · rw [if_pos hb] at h0
      by_cases hc : (text.getD s 0 == 46) = true
      · have e : c1 text lim s = true := by unfold c1; rw [hb, hc]; simp [hlt]
        rw [e, if_pos rfl]
        refine Ends.mono (Ends.step h0 rfl (Ends.step (step_lit_yes rfl rfl (Nat.le_of_ble_eq_true rfl) rfl hlt hc) rfl (Ends.step (step_success rfl rfl (Nat.le_of_ble_eq_true rfl) rfl rfl rfl) rfl
          (Ends.step (step_back rfl rfl rfl) rfl (Ends.step (step_end (b := true) rfl rfl rfl) rfl (Ends.done (P := Found (some s) (· + 1)) rfl ⟨rfl, rfl, rfl⟩)))))) (by lia) fun _ h => h
      · have e : c1 text lim s = false := by unfold c1; rw [hb]; simp [hlt]; simpa using hc
        rw [e, if_neg (by simp)]
        have hcf : (text.getD s 0 == 46) = false := by simpa using hc
        exact Ends.mono (Ends.step h0 rfl (Ends.step (step_lit_no rfl rfl (Nat.le_of_ble_eq_true rfl) rfl (fun _ => hcf)) rfl (next' _))) (by lia) fun _ h => h
    · rw [if_neg hb] at h0
      have e : c1 text lim s = false := by unfold c1; simp only [Bool.not_eq_true] at hb; rw [hb]; rfl
      rw [e, if_neg (by simp)]
      exact Ends.mono (Ends.step h0 rfl (next _)) (by lia) fun _ h => h

theorem search1 (text : Array Nat) (lim s : Nat) (hs : s ≤ lim) : Ends (4 * lim + 10) (Sre.forSearch code1 text 0 s lim false) (Found (first (c1 text lim) (lim - s + 1) s) (· + 1)) := by
  by_cases h : s < lim
  · have e : Sre.forSearch code1 text 0 s lim false = lit1 text lim s true (({} : Sre.Seen).add 14) := by
      have : (decide (s > lim) || decide (lim - s < 1)) = false := by simp; lia
      show (if (decide (s > lim) || decide (lim - s < 1)) = true then _ else _) = _
      rw [this]
      rfl
    rw [e]
    exact Ends.mono (at1 text lim (lim - s) s true _ rfl hs) (by lia) fun _ h => h
  · have hs : s = lim := by lia
    subst hs
    have e : Sre.forSearch code1 text 0 s s false = { base1 text s s s s true (({} : Sre.Seen).add 14) (-1) (-1) with lastStart := 0, answer := some false } := by
      have : (decide (s > s) || decide (s - s < 1)) = true := by simp
      show (if (decide (s > s) || decide (s - s < 1)) = true then _ else _) = _
      rw [this]
      rfl
    rw [e]
    have hc : c1 text s s = false := by unfold c1; simp
    have e0 : first (c1 text s) (s - s + 1) s = none := by rw [Nat.sub_self]; unfold first; rw [hc]; rfl
    rw [e0]
    exact Ends.mono (Ends.step (step_end (b := false) rfl rfl rfl) rfl (Ends.done (P := Found none (· + 1)) rfl rfl)) (by lia) fun _ h => h
end Mine

namespace Mine
open PySem.Sre (M)

noncomputable def code2 : Array Nat := #[14, 9, 4, 1, 2, 16, 10, 16, 13, 0, 7, 7, 16, 13, 16, 10, 15, 18, 5, 16, 10, 15, 13, 11, 16, 13, 5, 5, 0, 16, 10, 1, 15, 2, 0, 1]
noncomputable def lit2 (text : Array Nat) (lim ls s : Nat) (b : Bool) (sn : Sre.Seen) : M :=
  { code := code2, text := text, lim := lim, start := s, lastStart := ls, pc := 10, pos := s, handed := s, outermost := b, marks := #[], lastmark := -1, lastindex := -1, seen := sn,
    frames := [{ wait := .nextStart, pc := 10, pos := s, outermost := b }], weight := 1 }
noncomputable def e2 (text : Array Nat) (lim s : Nat) : Nat := if text.getD s 0 = 13 ∧ s + 1 < lim ∧ text.getD (s + 1) 0 = 10 then s + 2 else s + 1
noncomputable def c2 (text : Array Nat) (lim s : Nat) : Bool := decide (s < lim) && (text.getD s 0 == 10 || text.getD s 0 == 13)

theorem resume_start {m : M} {f : Sre.Frame} (hw : f.wait = .nextStart) : M.resume m f true = m.say true := by
  unfold M.resume; rw [hw]; rfl
theorem resume_branch_yes {m : M} {f : Sre.Frame} (hw : f.wait = .nextBranch) : M.resume m f true = m.say true := by
  unfold M.resume; rw [hw]; rfl
theorem resume_branch_no {m : M} {f : Sre.Frame} (hw : f.wait = .nextBranch) : M.resume m f false = (m.putBack f.kept).alternative (f.pc + m.code.getD f.pc 0) f.kept := by
  unfold M.resume; rw [hw]; rfl
theorem resume_notlook_no {m : M} {f : Sre.Frame} (hw : f.wait = .lookNot) : M.resume m f false = { m.putBack f.kept with pc := m.pc + 1 + m.word 1 } := by
  unfold M.resume; rw [hw]; rfl

theorem tail2 {m : M} (text : Array Nat) (lim s e : Nat) (f g : Sre.Frame) (hf : f.wait = .nextBranch) (hg : g.wait = .nextStart) (ho : m.outcome = none) (ha : m.answer = none) (hc : m.code = code2) (hpc : m.pc = 35) (hw : m.wholeText = false) (hm : m.mustAdvance = false) (hfr : m.frames = [f, g]) (hs : m.start = s) (hp : m.pos = e) :
    Ends 4 m (fun m' => m'.outcome = some .matched ∧ m'.start = s ∧ m'.handed = e) := by
  have h1 : m.word 0 = 1 := by unfold M.word; rw [hc, hpc]; rfl
  refine Ends.step (step_success ho ha (by rw [hc, hpc]; exact Nat.le_of_ble_eq_true rfl) h1 hw hm) ho ?_
  refine Ends.step ((step_back (f := f) (r := [g]) (b := true) (by exact ho) (by rfl) (by exact hfr)).trans (resume_branch_yes hf)) ho ?_
  refine Ends.step ((step_back (f := g) (r := []) (b := true) (by exact ho) (by rfl) (by rfl)).trans (resume_start hg)) ho ?_
  refine Ends.step (step_end (b := true) ho rfl rfl) ho ?_
  exact Ends.done rfl ⟨rfl, hs, hp⟩

theorem at2 (text : Array Nat) (lim ls s : Nat) (b : Bool) (sn : Sre.Seen) (hs : s < lim) (hc : text.getD s 0 = 10 ∨ text.getD s 0 = 13) :
    Ends 20 (lit2 text lim ls s b sn) (Found (some s) (e2 text lim)) := by
  have hb : (0 + 1 + 0 : Nat) > 16777216 ↔ False := by decide
  -- the branch is entered
  have s1 : (lit2 text lim ls s b sn).step = { lit2 text lim ls s b sn with seen := sn.add 7, pc := 12, frames := [{ wait := .nextBranch, pc := 11, pos := s, outermost := b, kept := { lastmark := -1, lastindex := -1 } }, { wait := .nextStart, pc := 10, pos := s, outermost := b }], weight := 2 } :=
    (step_branch rfl rfl (Nat.le_of_ble_eq_true rfl) rfl).trans rfl
  rcases hc with hc | hc
  · -- a feed
    have he : e2 text lim s = s + 1 := by unfold e2; rw [if_neg (by rw [hc]; lia)]
    show Ends 20 _ (fun m => m.outcome = some .matched ∧ m.start = s ∧ m.handed = e2 text lim s)
    rw [he]
    refine Ends.mono (B := 9) (Ends.step s1 rfl ?_) (by lia) fun _ h => h
    refine Ends.step (step_lit_no rfl rfl (Nat.le_of_ble_eq_true rfl) rfl (fun _ => ?_)) rfl ?_
    · show (text.getD s 0 == 13) = false
      rw [hc]; rfl
    refine Ends.step (m₁ := { lit2 text lim ls s b ((sn.add 7).add 16) with pc := 19, frames := [{ wait := .nextBranch, pc := 18, pos := s, outermost := b, kept := { lastmark := -1, lastindex := -1 } }, { wait := .nextStart, pc := 10, pos := s, outermost := b }], weight := 2 }) ((step_back rfl rfl rfl).trans ((resume_branch_no rfl).trans rfl)) rfl ?_
    refine Ends.step (step_lit_yes rfl rfl (Nat.le_of_ble_eq_true rfl) rfl hs ?_) rfl ?_
    · show (text.getD s 0 == 10) = true
      rw [hc]; rfl
    refine Ends.step (step_jump rfl rfl (Nat.le_of_ble_eq_true rfl) rfl) rfl ?_
    exact tail2 text lim s (s + 1) _ _ rfl rfl rfl rfl rfl rfl rfl rfl rfl rfl rfl
  · by_cases hn : s + 1 < lim ∧ text.getD (s + 1) 0 = 10
    · have he : e2 text lim s = s + 2 := by unfold e2; rw [if_pos ⟨hc, hn⟩]
      show Ends 20 _ (fun m => m.outcome = some .matched ∧ m.start = s ∧ m.handed = e2 text lim s)
      rw [he]
      refine Ends.mono (B := 8) (Ends.step s1 rfl ?_) (by lia) fun _ h => h
      refine Ends.step (step_lit_yes rfl rfl (Nat.le_of_ble_eq_true rfl) rfl hs ?_) rfl ?_
      · show (text.getD s 0 == 13) = true
        rw [hc]; rfl
      refine Ends.step (step_lit_yes rfl rfl (Nat.le_of_ble_eq_true rfl) rfl hn.1 ?_) rfl ?_
      · show (text.getD (s + 1) 0 == 10) = true
        rw [hn.2]; rfl
      refine Ends.step (step_jump rfl rfl (Nat.le_of_ble_eq_true rfl) rfl) rfl ?_
      exact tail2 text lim s (s + 2) _ _ rfl rfl rfl rfl rfl rfl rfl rfl rfl rfl rfl
    · have he : e2 text lim s = s + 1 := by unfold e2; rw [if_neg (fun h => hn h.2)]
      show Ends 20 _ (fun m => m.outcome = some .matched ∧ m.start = s ∧ m.handed = e2 text lim s)
      rw [he]
      have hno : s + 1 < lim → (text.getD (s + 1) 0 == 10) = false := fun h => by
        rw [beq_eq_false_iff_ne]; exact fun e => hn ⟨h, e⟩
      refine Ends.mono (B := 15) (Ends.step s1 rfl ?_) (by lia) fun _ h => h
      refine Ends.step (step_lit_yes rfl rfl (Nat.le_of_ble_eq_true rfl) rfl hs ?_) rfl ?_
      · show (text.getD s 0 == 13) = true
        rw [hc]; rfl
      refine Ends.step (step_lit_no rfl rfl (Nat.le_of_ble_eq_true rfl) rfl hno) rfl ?_
      refine Ends.step (m₁ := { lit2 text lim ls s b (((sn.add 7).add 16).add 16) with pc := 19, frames := [{ wait := .nextBranch, pc := 18, pos := s, outermost := b, kept := { lastmark := -1, lastindex := -1 } }, { wait := .nextStart, pc := 10, pos := s, outermost := b }], weight := 2 }) ((step_back rfl rfl rfl).trans ((resume_branch_no rfl).trans rfl)) rfl ?_
      refine Ends.step (step_lit_no rfl rfl (Nat.le_of_ble_eq_true rfl) rfl (fun _ => ?_)) rfl ?_
      · show (text.getD s 0 == 10) = false
        rw [hc]; rfl
      refine Ends.step (m₁ := { lit2 text lim ls s b ((((sn.add 7).add 16).add 16).add 16) with pc := 24, frames := [{ wait := .nextBranch, pc := 23, pos := s, outermost := b, kept := { lastmark := -1, lastindex := -1 } }, { wait := .nextStart, pc := 10, pos := s, outermost := b }], weight := 2 }) ((step_back rfl rfl rfl).trans ((resume_branch_no rfl).trans rfl)) rfl ?_
      refine Ends.step (step_lit_yes rfl rfl (Nat.le_of_ble_eq_true rfl) rfl hs ?_) rfl ?_
      · show (text.getD s 0 == 13) = true
        rw [hc]; rfl
      refine Ends.step (m₁ := { lit2 text lim ls s b ((((((sn.add 7).add 16).add 16).add 16).add 16).add 5) with pc := 29, pos := s + 1, handed := s + 1, outermost := false, frames := [{ wait := .lookNot, pc := 26, pos := s + 1, outermost := b, kept := { lastmark := -1, lastindex := -1 } }, { wait := .nextBranch, pc := 23, pos := s, outermost := b, kept := { lastmark := -1, lastindex := -1 } }, { wait := .nextStart, pc := 10, pos := s, outermost := b }], weight := 3 })
        ((step_notahead rfl rfl (Nat.le_of_ble_eq_true rfl) rfl rfl).trans rfl) rfl ?_
      refine Ends.step (step_lit_no rfl rfl (Nat.le_of_ble_eq_true rfl) rfl hno) rfl ?_
      refine Ends.step ((step_back rfl rfl rfl).trans (resume_notlook_no rfl)) rfl ?_
      refine Ends.step (step_jump rfl rfl (Nat.le_of_ble_eq_true rfl) rfl) rfl ?_
      exact tail2 text lim s (s + 1) _ _ rfl rfl rfl rfl rfl rfl rfl rfl rfl rfl rfl
end Mine

namespace Mine
open PySem.Sre (M)

theorem first_none {c : Nat → Bool} : ∀ (k s : Nat), (∀ q, s ≤ q → c q = false) → first c k s = none
  | 0, _, _ => rfl
  | k + 1, s, h => by unfold first; rw [h s (Nat.le_refl _)]; exact first_none k (s + 1) fun q hq => h q (by lia)
theorem first_some {c : Nat → Bool} {q : Nat} : ∀ {k s : Nat}, first c k s = some q → c q = true
  | k + 1, s, h => by
    unfold first at h
    split at h
    · cases h; assumption
    · exact first_some h

theorem set2 (c : Nat) (seen : Sre.Seen) : ∃ sn, Sre.inSet code2 c code2.size 5 true seen = .ok (c == 10 || c == 13, sn) := by
  have e : Sre.inSet code2 c 36 5 true seen = if (c == 10) = true then .ok (true, seen.add 16) else if (c == 13) = true then .ok (true, (seen.add 16).add 16) else .ok (false, ((seen.add 16).add 16).add 0) := rfl
  show ∃ sn, Sre.inSet code2 c 36 5 true seen = _
  rw [e]
  cases c == 10 <;> cases c == 13 <;> exact ⟨_, rfl⟩

theorem admit2 {m : M} (hc : m.code = code2) : ∀ (k s : Nat) (seen : Sre.Seen), ∃ sn, M.admitted m k s seen = .ok (first (c2 m.text m.lim) k s, sn)
  | 0, s, seen => ⟨seen, rfl⟩
  | k + 1, s, seen => by
    unfold M.admitted first
    by_cases hs : s < m.lim
    · rw [if_neg (by lia), hc]
      obtain ⟨sn, h⟩ := set2 (m.text.getD s 0) seen
      rw [h]
      have e : c2 m.text m.lim s = (m.text.getD s 0 == 10 || m.text.getD s 0 == 13) := by unfold c2; simp [hs]
      rw [e]
      cases hb : (m.text.getD s 0 == 10 || m.text.getD s 0 == 13)
      · simp only [Bool.false_eq_true, if_false]
        exact admit2 hc k (s + 1) sn
      · exact ⟨sn, rfl⟩
    · rw [if_pos (by lia)]
      have e : c2 m.text m.lim s = false := by unfold c2; simp [hs]
      rw [e]
      rw [if_neg (by simp), first_none k (s + 1) fun q hq => by unfold c2; simp; intro h; lia]
      exact ⟨seen, rfl⟩

theorem search2 (text : Array Nat) (lim s : Nat) (hs : s ≤ lim) : Ends 20 (Sre.forSearch code2 text 0 s lim false) (Found (first (c2 text lim) (lim + 1 - s) s) (e2 text lim)) := by
  by_cases h : s < lim
  · let m0 : M := { code := code2, text := text, lim := lim, start := s, lastStart := lim, pc := 10, pos := s, handed := s, marks := #[], seen := ({} : Sre.Seen).add 14 }
    have e : Sre.forSearch code2 text 0 s lim false = m0.attemptFrom s true := by
      have : (decide (s > lim) || decide (lim - s < 1)) = false := by simp; lia
      show (if (decide (s > lim) || decide (lim - s < 1)) = true then _ else _) = _
      rw [this]
      rfl
    rw [e]
    obtain ⟨sn, ha⟩ := admit2 (m := m0) rfl (lim + 1 - s) s m0.seen
    have e' : m0.attemptFrom s true = match M.admitted m0 (lim + 1 - s) s m0.seen with
      | .ok (some s, seen) => M.attemptAt { m0 with mustAdvance := false, seen := seen } s true
      | .ok (none, seen) => M.say { m0 with seen := seen } false
      | .error why => m0.stick why := rfl
    rw [e', ha]
    show Ends 20 _ (Found (first (c2 m0.text m0.lim) (lim + 1 - s) s) (e2 text lim))
    cases hf : first (c2 m0.text m0.lim) (lim + 1 - s) s with
    | none => exact Ends.mono (Ends.step (step_end (b := false) rfl rfl rfl) rfl (Ends.done (P := Found none (e2 text lim)) rfl rfl)) (by lia) fun _ h => h
    | some q =>
      have hq : c2 text lim q = true := first_some hf
      unfold c2 at hq
      simp only [Bool.and_eq_true, decide_eq_true_eq, Bool.or_eq_true, beq_iff_eq] at hq
      exact at2 text lim lim q true sn hq.1 hq.2
  · have hs : s = lim := by lia
    subst hs
    have e : Sre.forSearch code2 text 0 s s false = { code := code2, text := text, lim := s, start := s, pc := 10, pos := s, handed := s, marks := #[], seen := ({} : Sre.Seen).add 14, answer := some false } := by
      have : (decide (s > s) || decide (s - s < 1)) = true := by simp
      show (if (decide (s > s) || decide (s - s < 1)) = true then _ else _) = _
      rw [this]
      rfl
    rw [e, first_none _ s fun q hq => by unfold c2; simp; intro h; lia]
    exact Ends.mono (Ends.step (step_end (b := false) rfl rfl rfl) rfl (Ends.done (P := Found none (e2 text s)) rfl rfl)) (by lia) fun _ h => h
end Mine

namespace Mine

theorem pa_pat : PlainAttrs "re.Pattern" :=
  ⟨⟨"object.__getattribute__", by rw [typeLookup_type, builtinLookup_eq_fast]; kernel_rfl, by decide +kernel⟩, by rw [typeLookup_type, builtinLookup_eq_fast]; kernel_rfl⟩
theorem slot_sub : Slot "re.Pattern" "sub" "re.Pattern.sub" :=
  .of (owner := "re.Pattern") (n := "sub") (by rw [typeLookup_type, builtinLookup_eq_fast]; kernel_rfl) (by decide +kernel) (by decide +kernel) (by decide +kernel)
    (by first | exact .inl (by decide +kernel) | exact .inr (by decide +kernel)) (by rw [isSubtype_type]; kernel_rfl)
theorem type_sub : typeOf (.builtin "re.Pattern.sub") = pure (.type "method_descriptor") := by show builtinType _ = _; rw [builtinType_eq_fast]; kernel_rfl
theorem entry_sub : entryFor table "re.Pattern.sub" = some Builtin.«re.Pattern.sub» := entryFor_of_tree (by kernel_rfl)
theorem entry_subloop : entryFor table "re.Pattern.sub.loop" = some Builtin.«re.Pattern.sub.loop» := entryFor_of_tree (by kernel_rfl)
theorem plain_subloop : plainId "re.Pattern.sub.loop" = true := by decide +kernel
theorem args_sub (a b c : Value) : argsOk "re.Pattern.sub" ⟨[a, b, c], []⟩ := by
  unfold argsOk
  kernel_rfl
theorem str_no_call : typeLookup (.type "str") "__call__" = pure none := by rw [typeLookup_type, builtinLookup_eq_fast]; kernel_rfl
end Mine

namespace Mine
open PySem.Sre (M)
open PySem.Builtin.Re

theorem extract_S (l : List Nat) (b e : Nat) : (⟨(S l).cps.extract b e⟩ : Str) = S ((l.drop b).take (e - b)) := by
  unfold S
  congr 1
  simp [List.extract_eq_take_drop]

theorem reTextOf_str (x : Str) (t : Tok) : reTextOf (.str x t) = pure (x.cps, 0) := rfl
structure IsPat (h : Heap) (pat ct : Addr) (code : Array Nat) : Prop where
  obj : ∃ o vs, h.get? pat = some o ∧ o.data = .fields vs ∧ vs.getD 5 .none = .ref ct ∧ vs.getD 2 .none = .int 0 0 ∧ vs.getD 6 .none = .int 0 0
  tup : ∃ o items n, h.get? ct = some o ∧ o.data = .seq items n ∧ (items.map reRawOf).map (·.toNat) = code

section
variable {M' : Model} {A : Around} {E : Value → Shared → Prop} {s : Shared}
theorem whole {pat ct : Addr} {code : Array Nat} {l : List Nat} {t : Tok} {Q : ReTarget → Shared → Prop} (hp : IsPat s.heap pat ct code)
    (h : Q { pattern := .ref pat, string := .str (S l) t, code := code, text := l.toArray, kind := 0, groups := 0, pos := 0, lim := l.length } s) : wpAny M' A (reWholeTarget (.ref pat) (.str (S l) t)) Q E s := by
  obtain ⟨⟨o, vs, ho, hd, h5, h2, h6⟩, o', items, n, ho', hd', hcode⟩ := hp
  unfold reWholeTarget
  refine wpAny_bind (wpAny_fieldsOf ho hd ?_)
  rw [reTextOf_str]
  refine wpAny_bind (wpAny_pure ?_)
  simp only [h6, h2, h5, show reRawNat (.int 0 0) = 0 from rfl, show ((0 : Nat) == 0 && (0 : Nat) == 1) = false from rfl, show ((0 : Nat) == 1 && (0 : Nat) == 0) = false from rfl, Bool.false_eq_true, if_false]
  refine wpAny_bind (wpAny_of_eq (show reNoCollectionInside (.str (S l) t) 0 = pure () from rfl) ?_)
  unfold reRawItems
  refine wpAny_bind (wpAny_bind (wpAny_seqItems ho' hd' (wpAny_pure (wpAny_pure ?_))))
  rw [Option.getD_some, hcode]
  exact h
theorem slice0 {l : List Nat} {b e : Nat} {Q : Value → Shared → Prop} (hl : l.length ≤ 1000000) (h : Q (.str (S ((l.drop b).take (e - b))) s.toks) { s with toks := s.toks + 1 }) : wpAny M' A (reSlice l.toArray 0 b e) Q E s := by
  unfold reSlice
  rw [if_pos (by rfl), show (⟨l.toArray.extract b e⟩ : Str) = S ((l.drop b).take (e - b)) from extract_S l b e]
  refine wpAny_mkStr h ?_
  show ((l.drop b).take (e - b)).toArray.size ≤ _
  rw [List.size_toArray, List.length_take, List.length_drop, sizeLine_eq]; lia
end

noncomputable def pieces (find : Nat → Option Nat) (e : Nat → Nat) (rep l : List Nat) : Nat → Nat → List (List Nat)
  | 0, s => if s < l.length then [l.drop s] else []
  | k + 1, s => match find s with
    | none => if s < l.length then [l.drop s] else []
    | some q => (if s < q then [(l.drop s).take (q - s)] else []) ++ rep :: pieces find e rep l k (e q)

section
variable {prog : Program} {w : World} {A : Around} {R : Result → Shared → Prop}
theorem strValues_push (lt : List (Str × Tok)) (y : Str) (t : Tok) : (strValues lt).toArray.push (.str y t) = (strValues (lt ++ [(y, t)])).toArray := by
  simp [strValues]
theorem push_str {M' : Model} {E : Value → Shared → Prop} {s : Shared} {P : Addr} {lt : List (Str × Tok)} {c : Nat} {acc : List (List Nat)} {y : List Nat} {t : Tok} {Q : Unit → Shared → Prop} (hlt : lt.map (·.1) = acc.map S) (hs : s.heap.get? P = some { cls := .type "list", data := .seq (strValues lt).toArray c }) (hl : acc.length ≤ 100000)
    (h : ∀ h' c', (lt ++ [(S y, t)]).map (·.1) = (acc ++ [y]).map S → h'.get? P = some { cls := .type "list", data := .seq (strValues (lt ++ [(S y, t)])).toArray c' } → (∀ b o, b ≠ P → s.heap.get? b = some o → h'.get? b = some o) → Q () { s with heap := h' }) :
    wpAny M' A (updateSeq P (·.push (.str (S y) t))) Q E s := by
  have hlen : (strValues lt).toArray.size = acc.length := by
    have := congrArg List.length hlt
    simpa [strValues] using this
  have e' : (s.heap.update P (Obj.mapSeq (·.push (.str (S y) t)))).get? P = some { cls := .type "list", data := .seq (strValues (lt ++ [(S y, t)])).toArray (if ((strValues lt).toArray.push (.str (S y) t)).size == (strValues lt).toArray.size then c else c + 1) } := by
    rw [← strValues_push]
    exact Heap.get?_update_self (Obj.mapSeq (·.push (.str (S y) t))) hs rfl
  exact wpAny_updateSeq hs rfl (h _ _ (by simp [hlt]) e' fun b o hb e => (Heap.get?_update_other _ _ (Ne.symm hb)).trans e) (by rw [hlen, sizeLine_eq]; lia) (by rw [Array.size_push, hlen, sizeLine_eq]; lia)
theorem IsPat.keep {h h' : Heap} {pat ct P : Addr} {code : Array Nat} (hp : IsPat h pat ct code) (h1 : P ≠ pat ∧ P ≠ ct) (k : ∀ b o, b ≠ P → h.get? b = some o → h'.get? b = some o) : IsPat h' pat ct code :=
  let ⟨⟨o, vs, e, r⟩, ⟨o', items, n, e', r'⟩⟩ := hp
  ⟨⟨o, vs, k _ _ h1.1.symm e, r⟩, ⟨o', items, n, k _ _ h1.2.symm e', r'⟩⟩

theorem subturn {pat ct : Addr} {code : Array Nat} {l rep : List Nat} {ts tr : Tok} {find : Nat → Option Nat} {e : Nat → Nat} {B : Nat} (hl : l.length ≤ 1000) (hr : rep.length ≤ 10) (hB : B ≤ 2 ^ 65)
    {st : Nat} {s : Shared} {acc : List (List Nat)} {lt : List (Str × Tok)} {c : Nat} {n : Int} (hst : st ≤ l.length) (hsearch : Ends B (Sre.forSearch code l.toArray 0 st l.length false) (Found (find st) e)) (P : Addr) (hP : P ≠ pat ∧ P ≠ ct)
    (hpat : IsPat s.heap pat ct code) (hlt : lt.map (·.1) = acc.map S) (hs : s.heap.get? P = some { cls := .type "list", data := .seq (strValues lt).toArray c })
    (ha1 : acc.length ≤ 10000) (ha2 : acc.flatten.length ≤ 100000)
    (hsome : ∀ q, find st = some q → q < e q ∧ ∀ h' tk lt' c' n', IsPat h' pat ct code → lt'.map (·.1) = (acc ++ (if st < q then [(l.drop st).take (q - st)] else []) ++ [rep]).map S → h'.get? P = some { cls := .type "list", data := .seq (strValues lt').toArray c' } →
      (∀ b o, b ≠ P → s.heap.get? b = some o → h'.get? b = some o) →
      codeAny (model prog w) A (.builtin "re.Pattern.sub.loop" ⟨[.ref pat, .str (S l) ts, .str (S rep) tr, rawInt 0, rawInt 0, rawInt n', rawInt (e q), rawInt (e q), .bool false, .ref P, .bool false], []⟩) R { s with heap := h', toks := tk })
    (hnone : find st = none → ∀ h' tk t', (∀ b o, b ≠ P → s.heap.get? b = some o → h'.get? b = some o) → R (.ok (.ret (.str (S (acc ++ (if st < l.length then [l.drop st] else [])).flatten) t'))) { s with heap := h', toks := tk }) :
    codeAny (model prog w) A (.builtin "re.Pattern.sub.loop" ⟨[.ref pat, .str (S l) ts, .str (S rep) tr, rawInt 0, rawInt 0, rawInt n, rawInt st, rawInt st, .bool false, .ref P, .bool false], []⟩) R s := by
  refine codeAny_builtin entry_subloop ?_
  rw [Around.under_plainId plain_subloop _]
  unfold Builtin.«re.Pattern.sub.loop»
  refine wpAny_bind (whole hpat ?_)
  dsimp only [rawInt]
  rw [if_pos (by rfl)]
  refine wpAny_bind (wpAny_of_eq (show reLiteralCannotBeTurned (.str (S rep) tr) = pure () from rfl) ?_)
  rw [if_neg (by simp)]
  unfold reNextFound
  rw [show ((st : Int)).toNat = st from rfl]
  refine wpAny_bind (runToEnd hsearch hB fun m hm => ?_)
  cases hf : find st with
  | some q =>
    rw [hf] at hm
    obtain ⟨h1, h2, h3⟩ := hm
    refine .inl ⟨h1, ?_⟩
    obtain ⟨hlt', hnext⟩ := hsome q hf
    have hb : (m.handed == m.start) = false := by rw [h2, h3, beq_eq_false_iff_ne]; lia
    have fin : ∀ (s' : Shared) (lt' : List (Str × Tok)) (c' : Nat) (acc' : List (List Nat)) (hacc : acc' = acc ++ (if st < q then [(l.drop st).take (q - st)] else [])), (∃ h' tk, s' = { s with heap := h', toks := tk } ∧ (∀ b o, b ≠ P → s.heap.get? b = some o → h'.get? b = some o)) → lt'.map (·.1) = acc'.map S →
        s'.heap.get? P = some { cls := .type "list", data := .seq (strValues lt').toArray c' } →
        wpAny (model prog w) A.in1 (do
          let item ← pure (Value.str (S rep) tr)
          if (item != Value.none) = true then do
              updateSeq P fun x => x.push item
              again (Code.builtin "re.Pattern.sub.loop" { pos := [Value.ref pat, Value.str (S l) ts, Value.str (S rep) tr, Value.int 0 0, Value.int 0 0, Value.int (n + 1) 0, Value.int (m.handed : Nat) 0, Value.int (m.handed : Nat) 0, Value.bool (m.handed == m.start), Value.ref P, Value.bool false] })
            else
              again (Code.builtin "re.Pattern.sub.loop" { pos := [Value.ref pat, Value.str (S l) ts, Value.str (S rep) tr, Value.int 0 0, Value.int 0 0, Value.int (n + 1) 0, Value.int (m.handed : Nat) 0, Value.int (m.handed : Nat) 0, Value.bool (m.handed == m.start), Value.ref P, Value.bool false] }))
          (fun fin s' => match fin with | .done f => R (.ok f) s' | .again c' => c'.quiet = true ∧ codeAny (model prog w) A c' R s') (fun e s' => R (.error e) s') s' := by
      rintro _ lt' c' acc' hacc ⟨h', tk, rfl, hk⟩ hlt₁ hs₁
      refine wpAny_bind (wpAny_pure ?_)
      rw [if_pos (by rfl)]
      refine wpAny_bind (push_str (acc := acc') hlt₁ hs₁ (by rw [hacc, List.length_append]; split <;> simp <;> lia) fun h'' c'' e1 e2 k2 => ?_)
      have hk2 : ∀ b o, b ≠ P → s.heap.get? b = some o → h''.get? b = some o := fun b o hb e => k2 b o hb (hk b o hb e)
      rw [hb, h3]
      refine wpAny_pure ⟨plainId_quiet plain_subloop _, hnext h'' tk _ c'' (n + 1) (hpat.keep hP hk2) (by rw [e1, hacc]) e2 hk2⟩
    dsimp only
    rw [h2]
    by_cases hq : st < q
    · rw [if_pos hq]
      refine wpAny_bind (slice0 (by lia) ?_)
      refine wpAny_bind (push_str (acc := acc) hlt hs (by lia) fun h'' c'' e1 e2 k2 => ?_)
      rw [if_pos (by rfl)]
      rw [← h2]
      exact fin _ _ c'' _ (by rw [if_pos hq]) ⟨h'', _, rfl, k2⟩ e1 e2
    · rw [if_neg hq]
      rw [if_pos (by rfl)]
      rw [← h2]
      exact fin _ _ c acc (by rw [if_neg hq]; simp) ⟨_, _, rfl, fun _ _ _ e => e⟩ hlt hs
  | none =>
    rw [hf] at hm
    refine .inr ⟨hm, ?_⟩
    have hno := hnone hf
    dsimp only
    have fin : ∀ (s' : Shared) (lt' : List (Str × Tok)) (c' : Nat) (acc' : List (List Nat)) (hacc : acc' = acc ++ (if st < l.length then [l.drop st] else [])), (∃ h' tk, s' = { s with heap := h', toks := tk } ∧ (∀ b o, b ≠ P → s.heap.get? b = some o → h'.get? b = some o)) → lt'.map (·.1) = acc'.map S →
        s'.heap.get? P = some { cls := .type "list", data := .seq (strValues lt').toArray c' } → (∀ h' tk t', (∀ b o, b ≠ P → s.heap.get? b = some o → h'.get? b = some o) → R (.ok (.ret (.str (S acc'.flatten) t'))) { s with heap := h', toks := tk }) →
        wpAny (model prog w) A.in1 (do
          let joiner ← reSlice l.toArray 0 0 0
          let __do_lift ← seqItems? (Value.ref P)
          if (__do_lift.getD #[]).isEmpty = true then do
              let text ← pure joiner
              if false = true then do
                  let x ← holding [text] do
                        let y ← mkInt n
                        newTuple [text, y]
                  PySem.ret x
                else PySem.ret text
            else do
              let text ← call (Value.builtin (if (0 == 0) = true then "str.join" else "bytes.join")) [joiner, Value.ref P]
              if false = true then do
                  let x ← holding [text] do
                        let y ← mkInt n
                        newTuple [text, y]
                  PySem.ret x
                else PySem.ret text)
          (fun fin s' => match fin with | .done f => R (.ok f) s' | .again c' => c'.quiet = true ∧ codeAny (model prog w) A c' R s') (fun e s' => R (.error e) s') s' := by
      rintro _ lt' c' acc' hacc ⟨h', tk, rfl, hk⟩ hlt₁ hs₁ hfin
      have hal : acc'.flatten.length ≤ 1000000 := by
        rw [hacc]; split <;> simp <;> simp at ha2 <;> lia
      refine wpAny_bind (slice0 (by lia) ?_)
      rw [show (l.drop 0).take (0 - 0) = [] from rfl]
      refine wpAny_bind (wpAny_seqItems hs₁ rfl ?_)
      rw [Option.getD_some]
      cases lt' with
      | nil =>
        have : acc' = [] := by cases acc' with
          | nil => rfl
          | cons _ _ => simp at hlt₁
        subst this
        rw [if_pos (by rfl)]
        refine wpAny_bind (wpAny_pure ?_)
        rw [if_neg (by simp)]
        exact wpAny_pure (hfin h' _ _ hk)
      | cons x lt' =>
        rw [if_neg (by simp [strValues])]
        rw [if_pos (by rfl : ((0 : Nat) == 0) = true)]
        refine wpAny_bind (SC.join (l := x :: lt') (texts := acc'.map S) ⟨_, hs₁, rfl, c', rfl⟩ hlt₁ ?_ fun t' k' => ?_)
        · unfold JoinOk Builtin.Str.tooLong
          rw [show (S []).length = 0 from rfl]
          have : Array.foldl (fun (x1 : Nat) (x2 : Str) => x1 + x2.length + 0) 0 (acc'.map S).toArray = acc'.flatten.length := by
            rw [List.foldl_toArray, foldl_len]
            simp only [List.map_map, List.length_flatten, Nat.zero_add]
            congr 1
          rw [this]
          rw [decide_eq_false (by simp only [sizeLine]; lia)]; rfl
        · have e : Txt.join (S []) (acc'.map S) = S acc'.flatten := glued_empty acc'
          rw [e, if_neg (by simp)]
          exact wpAny_pure (hfin h' _ _ hk)
    by_cases hq : st < l.length
    · rw [if_pos hq]
      refine wpAny_bind (slice0 (by lia) ?_)
      refine wpAny_bind (push_str (acc := acc) hlt hs (by lia) fun h'' c'' e1 e2 k2 => ?_)
      rw [show (l.drop st).take (l.length - st) = l.drop st from List.take_of_length_le (by simp)] at e1 e2
      exact fin _ _ c'' _ (by rw [if_pos hq]) ⟨h'', _, rfl, k2⟩ e1 e2 (by rw [if_pos hq] at hno; exact hno)
    · rw [if_neg hq]
      exact fin _ _ c acc (by rw [if_neg hq]; simp) ⟨_, _, rfl, fun _ _ _ e => e⟩ hlt hs (by rw [if_neg hq, List.append_nil] at hno; exact hno)

theorem subloop {pat ct : Addr} {code : Array Nat} {l rep : List Nat} {ts tr : Tok} {find : Nat → Option Nat} {e : Nat → Nat} {B : Nat} (hl : l.length ≤ 1000) (hr : rep.length ≤ 10) (hB : B ≤ 2 ^ 65)
    (hsearch : ∀ s, s ≤ l.length → Ends B (Sre.forSearch code l.toArray 0 s l.length false) (Found (find s) e)) (hfind : ∀ s q, find s = some q → s ≤ q ∧ q < e q ∧ e q ≤ l.length) (P : Addr) (hP : P ≠ pat ∧ P ≠ ct) :
    ∀ (k st : Nat) (s : Shared) (acc : List (List Nat)) (lt : List (Str × Tok)) (c : Nat) (n : Int), l.length - st ≤ k → st ≤ l.length → IsPat s.heap pat ct code → lt.map (·.1) = acc.map S → s.heap.get? P = some { cls := .type "list", data := .seq (strValues lt).toArray c } →
    acc.length ≤ 2 * st → acc.flatten.length ≤ 11 * st →
    (∀ h' tk t', (∀ b o, b ≠ P → s.heap.get? b = some o → h'.get? b = some o) → R (.ok (.ret (.str (S (acc ++ pieces find e rep l k st).flatten) t'))) { s with heap := h', toks := tk }) →
    codeAny (model prog w) A (.builtin "re.Pattern.sub.loop" ⟨[.ref pat, .str (S l) ts, .str (S rep) tr, rawInt 0, rawInt 0, rawInt n, rawInt st, rawInt st, .bool false, .ref P, .bool false], []⟩) R s := by
  intro k
  induction k with
  | zero =>
    intro st s acc lt c n hk hst hpat hlt hs ha1 ha2 hR
    refine subturn (find := find) (e := e) hl hr hB hst (hsearch st hst) P hP hpat hlt hs (by lia) (by lia) (fun q hq => ?_) (fun hq => ?_)
    · have := hfind st q hq; lia
    · unfold pieces at hR; exact hR
  | succ k ih =>
    intro st s acc lt c n hk hst hpat hlt hs ha1 ha2 hR
    refine subturn (find := find) (e := e) hl hr hB hst (hsearch st hst) P hP hpat hlt hs (by lia) (by lia) (fun q hq => ?_) (fun hq => ?_)
    · obtain ⟨h1, h2, h3⟩ := hfind st q hq
      refine ⟨h2, fun h' tk lt' c' n' hp' hl' hs' hk' => ?_⟩
      refine ih (e q) _ (acc ++ (if st < q then [(l.drop st).take (q - st)] else []) ++ [rep]) lt' c' n' (by lia) h3 hp' hl' hs' ?_ ?_ ?_
      · split <;> simp <;> lia
      · rw [List.length_flatten] at ha2
        split <;> simp <;> lia
      · intro h'' tk'' t'' hk''
        have := hR h'' tk'' t'' fun b o hb e => hk'' b o hb (hk' b o hb e)
        unfold pieces at this
        rw [hq] at this
        simpa [List.append_assoc] using this
    · unfold pieces at hR; rw [hq] at hR; exact hR
end
end Mine

namespace Mine
open PySem.Builtin.Re

theorem named_sub (a b : Value) : reNamed "re.Pattern.sub" "sub" ["repl", "string", "count"] 2 [a, b] [] = pure [some a, some b, none] := by rfl

theorem sub_call {prog : Program} {w : World} {A : Around} {E : Value → Shared → Prop} {s : Shared} {Q : Value → Shared → Prop} {pat ct : Addr} {code : Array Nat} {l rep : List Nat} {ts tr : Tok} {find : Nat → Option Nat} {e : Nat → Nat} {B : Nat} (hl : l.length ≤ 1000) (hr : rep.length ≤ 10) (hb : rep.contains 92 = false) (hB : B ≤ 2 ^ 65)
    (hsearch : ∀ s, s ≤ l.length → Ends B (Sre.forSearch code l.toArray 0 s l.length false) (Found (find s) e)) (hfind : ∀ s q, find s = some q → s ≤ q ∧ q < e q ∧ e q ≤ l.length)
    (hpat : IsPat s.heap pat ct code) (hT : s.TypeIs (.ref pat) "re.Pattern")
    (hQ : ∀ h' tk t', (∀ b o, s.heap.get? b = some o → h'.get? b = some o) → Q (.str (S (pieces find e rep l l.length 0).flatten) t') { s with heap := h', toks := tk }) :
    wpAny (model prog w) A (call (.builtin "re.Pattern.sub") [.ref pat, .str (S rep) tr, .str (S l) ts]) Q E s := by
  refine wpAny_call (codeAny_call_builtin slot_sub.plain entry_sub (slot_sub.check _ _ _ _ _ _ _ _ hT (args_sub _ _ _) ?_))
  show wpAny _ A.in1 (Builtin.«re.Pattern.sub» ⟨[.ref pat, .str (S rep) tr, .str (S l) ts], []⟩) _ _ s
  unfold Builtin.«re.Pattern.sub» reSubstitute
  dsimp only
  rw [named_sub]
  refine wpAny_bind (wpAny_pure ?_)
  dsimp only
  refine wpAny_bind (wpAny_pure ?_)
  refine wpAny_bind (wpAny_specialOf (typeIs_str _ _ _) str_no_call ?_)
  rw [if_neg (by simp)]
  refine wpAny_bind (wpAny_of_eq (show asStr? (.str (S rep) tr) = pure (some (S rep)) from rfl) ?_)
  dsimp only
  refine wpAny_bind (wpAny_pure ?_)
  rw [if_neg (by simp)]
  have hlit : (!(S rep).cps.contains 92) = true := by
    have : (S rep).cps.contains 92 = rep.contains 92 := by show rep.toArray.contains 92 = _; simp
    rw [this, hb]; rfl
  rw [if_pos hlit]
  refine wpAny_bind (wpAny_pure ?_)
  dsimp only
  refine wpAny_bind (wpAny_holding (whole hpat ?_))
  rw [if_neg (by simp)]
  refine wpAny_bind (wpAny_newObj_type ?_ (by show ([] : List Value).toArray.size ≤ sizeLine; rw [sizeLine_eq]; exact Nat.zero_le _))
  have hk : ∀ b o, s.heap.get? b = some o → (s.heap.push { cls := .type "list", dict := none, data := .seq ([] : List Value).toArray }).get? b = some o := fun b o e => Heap.get?_push_of_some _ e
  obtain ⟨⟨o, vs, e1, r1⟩, ⟨o', items, n, e2, r2⟩⟩ := hpat
  have hpat' : IsPat (s.heap.push { cls := .type "list", dict := none, data := .seq ([] : List Value).toArray }) pat ct code := ⟨⟨o, vs, hk _ _ e1, r1⟩, ⟨o', items, n, hk _ _ e2, r2⟩⟩
  refine wpAny_pure ⟨plainId_quiet plain_subloop _, ?_⟩
  have hP : s.heap.objs.size ≠ pat ∧ s.heap.objs.size ≠ ct := ⟨fun q => by rw [← q] at e1; exact absurd (Heap.lt_size e1) (Nat.lt_irrefl _), fun q => by rw [← q] at e2; exact absurd (Heap.lt_size e2) (Nat.lt_irrefl _)⟩
  refine subloop (find := find) (e := e) hl hr hB hsearch hfind _ hP l.length 0 _ [] [] 0 0 (by lia) (Nat.zero_le _) hpat' rfl (Heap.get?_push_size _ rfl) (by simp) (by simp) ?_
  intro h' tk t' k'
  rw [List.nil_append]
  refine hQ h' tk t' fun b o e => k' b o (fun q => ?_) (hk b o e)
  rw [q] at e; exact absurd (Heap.lt_size e) (Nat.lt_irrefl _)
end Mine

namespace Mine
theorem fill : (PySem.Challenge.rw_ty0009_01 = PySem.Challenge.rw_ty0009_01) ∧ (hd.heap_39 = hd.heap_39) := by
  k_fill
  exact ⟨rfl, rfl⟩

theorem lit_dot : Str.ofString "." = S [46] := by decide +kernel
theorem lit_dots : Str.ofString "..." = S [46, 46, 46] := by decide +kernel
theorem lit_two : Str.ofString ".." = S [46, 46] := by decide +kernel
theorem lit_crlf : Str.ofString "\r\n" = S [13, 10] := by decide +kernel
theorem lit_lf : Str.ofString "\n" = S [10] := by decide +kernel
theorem lit_cr : Str.ofString "\r" = S [13] := by decide +kernel
theorem lit_no : Str.ofString "" = S [] := by decide +kernel
section
variable {G : Gl} {n : Nat} {cx : Cx} {loc : Loc} {σ : List MO} {P : MV → List MO → Prop}
theorem WE.meth {o : Expr} {name : Str} {ap pos : Pos} {es : List Expr} {T id : String} (hT : PlainAttrs T) (hS : Slot T name id) (hd : typeOf (.builtin id) = pure (.type "method_descriptor"))
    (hb : ∀ env, attributeBase o name env (eval o env) = eval o env)
    (hargs : ∀ env, ((((backTo pos (starEach es env)).all fun x => !x.fst) && (backToKw pos (keywordEach [] env)).all fun x => x.fst.isSome) && decide ((es.length + ([] : List Keyword).length + if ([] : List Keyword).isEmpty = true then 0 else 1) < 30)) = true)
    (hl : (ap.endLine == pos.line) = true) (hp : (es.all fun | .Starred .. => false | _ => true) = true) (h : WE G n cx o loc σ fun a σ₁ => Undressed a σ₁ ∧ tyOf a = T ∧ WEs G n cx es loc σ₁ fun vs σ₂ => OCall G n (.top (.builtin id)) (a :: vs) σ₂ P) :
    WE G n cx (.Call (.Attribute o name ap) es [] pos) loc σ P := WE.method hT hS hd h hb hargs hl hp
theorem WE.str' {x : Str} {l : List Nat} {k : Nat} {pos : Pos} (hl : x = S l) (h : P (.str (S l)) σ) : WE G n cx (.Constant (.str x) k pos) loc σ P := WE.str (by rw [hl]; exact h)

theorem call_range {p pos : Pos} {es : List Expr} (hK : G.K = hd.heap_39 G.w.params) (hk : cx.scope.kind = .function) (hx : cx.scope.names.lookup (Str.ofString "range") = some .globalImplicit) (hp : (es.all fun | .Starred .. => false | _ => true) = true) (h : WEs G n cx es loc σ fun vs σ₂ => OCall G n (.top (.type "range")) vs σ₂ P) :
    WE G n cx (.Call (.Name (Str.ofString "range") p) es [] pos) loc σ P := by
  refine WE.call (WL.b hk hx ?he ?hv (by decide) ⟨_, rfl, (by intro a e; cases e), h⟩) hp
  case he => rw [hK]; k_is
  case hv => kernel_rfl

theorem call_len {p pos : Pos} {es : List Expr} (hK : G.K = hd.heap_39 G.w.params) (hk : cx.scope.kind = .function) (hx : cx.scope.names.lookup (Str.ofString "len") = some .globalImplicit) (hp : (es.all fun | .Starred .. => false | _ => true) = true) (h : WEs G n cx es loc σ fun vs σ₂ => OCall G n (.top (.builtin "len")) vs σ₂ P) :
    WE G n cx (.Call (.Name (Str.ofString "len") p) es [] pos) loc σ P := by
  refine WE.call (WL.b hk hx ?he ?hv (by decide) ⟨_, rfl, (by intro a e; cases e), h⟩) hp
  case he => rw [hK]; k_is
  case hv => kernel_rfl

theorem call_min {p pos : Pos} {es : List Expr} (hK : G.K = hd.heap_39 G.w.params) (hk : cx.scope.kind = .function) (hx : cx.scope.names.lookup (Str.ofString "min") = some .globalImplicit) (hp : (es.all fun | .Starred .. => false | _ => true) = true) (h : WEs G n cx es loc σ fun vs σ₂ => OCall G n (.top (.builtin "min")) vs σ₂ P) :
    WE G n cx (.Call (.Name (Str.ofString "min") p) es [] pos) loc σ P := by
  refine WE.call (WL.b hk hx ?he ?hv (by decide) ⟨_, rfl, (by intro a e; cases e), h⟩) hp
  case he => rw [hK]; k_is
  case hv => kernel_rfl

theorem call_max {p pos : Pos} {es : List Expr} (hK : G.K = hd.heap_39 G.w.params) (hk : cx.scope.kind = .function) (hx : cx.scope.names.lookup (Str.ofString "max") = some .globalImplicit) (hp : (es.all fun | .Starred .. => false | _ => true) = true) (h : WEs G n cx es loc σ fun vs σ₂ => OCall G n (.top (.builtin "max")) vs σ₂ P) :
    WE G n cx (.Call (.Name (Str.ofString "max") p) es [] pos) loc σ P := by
  refine WE.call (WL.b hk hx ?he ?hv (by decide) ⟨_, rfl, (by intro a e; cases e), h⟩) hp
  case he => rw [hK]; k_is
  case hv => kernel_rfl

theorem call_abs {p pos : Pos} {es : List Expr} (hK : G.K = hd.heap_39 G.w.params) (hk : cx.scope.kind = .function) (hx : cx.scope.names.lookup (Str.ofString "abs") = some .globalImplicit) (hp : (es.all fun | .Starred .. => false | _ => true) = true) (h : WEs G n cx es loc σ fun vs σ₂ => OCall G n (.top (.builtin "abs")) vs σ₂ P) :
    WE G n cx (.Call (.Name (Str.ofString "abs") p) es [] pos) loc σ P := by
  refine WE.call (WL.b hk hx ?he ?hv (by decide) ⟨_, rfl, (by intro a e; cases e), h⟩) hp
  case he => rw [hK]; k_is
  case hv => kernel_rfl

theorem call_int {p pos : Pos} {es : List Expr} (hK : G.K = hd.heap_39 G.w.params) (hk : cx.scope.kind = .function) (hx : cx.scope.names.lookup (Str.ofString "int") = some .globalImplicit) (hp : (es.all fun | .Starred .. => false | _ => true) = true) (h : WEs G n cx es loc σ fun vs σ₂ => OCall G n (.top (.type "int")) vs σ₂ P) :
    WE G n cx (.Call (.Name (Str.ofString "int") p) es [] pos) loc σ P := by
  refine WE.call (WL.b hk hx ?he ?hv (by decide) ⟨_, rfl, (by intro a e; cases e), h⟩) hp
  case he => rw [hK]; k_is
  case hv => kernel_rfl

theorem call_chr {p pos : Pos} {es : List Expr} (hK : G.K = hd.heap_39 G.w.params) (hk : cx.scope.kind = .function) (hx : cx.scope.names.lookup (Str.ofString "chr") = some .globalImplicit) (hp : (es.all fun | .Starred .. => false | _ => true) = true) (h : WEs G n cx es loc σ fun vs σ₂ => OCall G n (.top (.builtin "chr")) vs σ₂ P) :
    WE G n cx (.Call (.Name (Str.ofString "chr") p) es [] pos) loc σ P := by
  refine WE.call (WL.b hk hx ?he ?hv (by decide) ⟨_, rfl, (by intro a e; cases e), h⟩) hp
  case he => rw [hK]; k_is
  case hv => kernel_rfl

theorem call_ord {p pos : Pos} {es : List Expr} (hK : G.K = hd.heap_39 G.w.params) (hk : cx.scope.kind = .function) (hx : cx.scope.names.lookup (Str.ofString "ord") = some .globalImplicit) (hp : (es.all fun | .Starred .. => false | _ => true) = true) (h : WEs G n cx es loc σ fun vs σ₂ => OCall G n (.top (.builtin "ord")) vs σ₂ P) :
    WE G n cx (.Call (.Name (Str.ofString "ord") p) es [] pos) loc σ P := by
  refine WE.call (WL.b hk hx ?he ?hv (by decide) ⟨_, rfl, (by intro a e; cases e), h⟩) hp
  case he => rw [hK]; k_is
  case hv => kernel_rfl

theorem call_sum {p pos : Pos} {es : List Expr} (hK : G.K = hd.heap_39 G.w.params) (hk : cx.scope.kind = .function) (hx : cx.scope.names.lookup (Str.ofString "sum") = some .globalImplicit) (hp : (es.all fun | .Starred .. => false | _ => true) = true) (h : WEs G n cx es loc σ fun vs σ₂ => OCall G n (.top (.builtin "sum")) vs σ₂ P) :
    WE G n cx (.Call (.Name (Str.ofString "sum") p) es [] pos) loc σ P := by
  refine WE.call (WL.b hk hx ?he ?hv (by decide) ⟨_, rfl, (by intro a e; cases e), h⟩) hp
  case he => rw [hK]; k_is
  case hv => kernel_rfl

theorem call_iter {p pos : Pos} {es : List Expr} (hK : G.K = hd.heap_39 G.w.params) (hk : cx.scope.kind = .function) (hx : cx.scope.names.lookup (Str.ofString "iter") = some .globalImplicit) (hp : (es.all fun | .Starred .. => false | _ => true) = true) (h : WEs G n cx es loc σ fun vs σ₂ => OCall G n (.top (.builtin "iter")) vs σ₂ P) :
    WE G n cx (.Call (.Name (Str.ofString "iter") p) es [] pos) loc σ P := by
  refine WE.call (WL.b hk hx ?he ?hv (by decide) ⟨_, rfl, (by intro a e; cases e), h⟩) hp
  case he => rw [hK]; k_is
  case hv => kernel_rfl

theorem call_next {p pos : Pos} {es : List Expr} (hK : G.K = hd.heap_39 G.w.params) (hk : cx.scope.kind = .function) (hx : cx.scope.names.lookup (Str.ofString "next") = some .globalImplicit) (hp : (es.all fun | .Starred .. => false | _ => true) = true) (h : WEs G n cx es loc σ fun vs σ₂ => OCall G n (.top (.builtin "next")) vs σ₂ P) :
    WE G n cx (.Call (.Name (Str.ofString "next") p) es [] pos) loc σ P := by
  refine WE.call (WL.b hk hx ?he ?hv (by decide) ⟨_, rfl, (by intro a e; cases e), h⟩) hp
  case he => rw [hK]; k_is
  case hv => kernel_rfl



theorem callD_rgb_to_hsv {p pos : Pos} {es : List Expr} (hK : G.K = hd.heap_39 G.w.params) (hk : cx.scope.kind = .function) (hx : cx.scope.names.lookup (Str.ofString "rgb_to_hsv") = some .globalImplicit) (hp : (es.all fun | .Starred .. => false | _ => true) = true) (h : WEs G n cx es loc σ fun vs σ₂ => OCall G n (.top (.ref 38)) vs σ₂ P) :
    WE G n cx (.Call (.Name (Str.ofString "rgb_to_hsv") p) es [] pos) loc σ P := by
  refine' WE.callD (f := 38) ?hf (WL.g hk hx ?he ⟨rfl, h⟩) hp ?hd
  case hf => rw [hK]; k_is
  case he => rw [hK]; k_is
  case hd => decide

theorem callD_parse_varint {p pos : Pos} {es : List Expr} (hK : G.K = hd.heap_39 G.w.params) (hk : cx.scope.kind = .function) (hx : cx.scope.names.lookup (Str.ofString "_parse_varint") = some .globalImplicit) (hp : (es.all fun | .Starred .. => false | _ => true) = true) (h : WEs G n cx es loc σ fun vs σ₂ => OCall G n (.top (.ref 45)) vs σ₂ P) :
    WE G n cx (.Call (.Name (Str.ofString "_parse_varint") p) es [] pos) loc σ P := by
  refine' WE.callD (f := 45) ?hf (WL.g hk hx ?he ⟨rfl, h⟩) hp ?hd
  case hf => rw [hK]; k_is
  case he => rw [hK]; k_is
  case hd => decide

theorem callD_ellipsis_match {p pos : Pos} {es : List Expr} (hK : G.K = hd.heap_39 G.w.params) (hk : cx.scope.kind = .function) (hx : cx.scope.names.lookup (Str.ofString "_ellipsis_match") = some .globalImplicit) (hp : (es.all fun | .Starred .. => false | _ => true) = true) (h : WEs G n cx es loc σ fun vs σ₂ => OCall G n (.top (.ref 52)) vs σ₂ P) :
    WE G n cx (.Call (.Name (Str.ofString "_ellipsis_match") p) es [] pos) loc σ P := by
  refine' WE.callD (f := 52) ?hf (WL.g hk hx ?he ⟨rfl, h⟩) hp ?hd
  case hf => rw [hK]; k_is
  case he => rw [hK]; k_is
  case hd => decide

theorem callD_quotedata {p pos : Pos} {es : List Expr} (hK : G.K = hd.heap_39 G.w.params) (hk : cx.scope.kind = .function) (hx : cx.scope.names.lookup (Str.ofString "quotedata") = some .globalImplicit) (hp : (es.all fun | .Starred .. => false | _ => true) = true) (h : WEs G n cx es loc σ fun vs σ₂ => OCall G n (.top (.ref 69)) vs σ₂ P) :
    WE G n cx (.Call (.Name (Str.ofString "quotedata") p) es [] pos) loc σ P := by
  refine' WE.callD (f := 69) ?hf (WL.g hk hx ?he ⟨rfl, h⟩) hp ?hd
  case hf => rw [hK]; k_is
  case he => rw [hK]; k_is
  case hd => decide

theorem callD_law_codes {p pos : Pos} {es : List Expr} (hK : G.K = hd.heap_39 G.w.params) (hk : cx.scope.kind = .function) (hx : cx.scope.names.lookup (Str.ofString "_law_codes") = some .globalImplicit) (hp : (es.all fun | .Starred .. => false | _ => true) = true) (h : WEs G n cx es loc σ fun vs σ₂ => OCall G n (.top (.ref 76)) vs σ₂ P) :
    WE G n cx (.Call (.Name (Str.ofString "_law_codes") p) es [] pos) loc σ P := by
  refine' WE.callD (f := 76) ?hf (WL.g hk hx ?he ⟨rfl, h⟩) hp ?hd
  case hf => rw [hK]; k_is
  case he => rw [hK]; k_is
  case hd => decide

theorem callD_law_words {p pos : Pos} {es : List Expr} (hK : G.K = hd.heap_39 G.w.params) (hk : cx.scope.kind = .function) (hx : cx.scope.names.lookup (Str.ofString "_law_words") = some .globalImplicit) (hp : (es.all fun | .Starred .. => false | _ => true) = true) (h : WEs G n cx es loc σ fun vs σ₂ => OCall G n (.top (.ref 83)) vs σ₂ P) :
    WE G n cx (.Call (.Name (Str.ofString "_law_words") p) es [] pos) loc σ P := by
  refine' WE.callD (f := 83) ?hf (WL.g hk hx ?he ⟨rfl, h⟩) hp ?hd
  case hf => rw [hK]; k_is
  case he => rw [hK]; k_is
  case hd => decide

theorem callD_law_mail {p pos : Pos} {es : List Expr} (hK : G.K = hd.heap_39 G.w.params) (hk : cx.scope.kind = .function) (hx : cx.scope.names.lookup (Str.ofString "_law_mail") = some .globalImplicit) (hp : (es.all fun | .Starred .. => false | _ => true) = true) (h : WEs G n cx es loc σ fun vs σ₂ => OCall G n (.top (.ref 90)) vs σ₂ P) :
    WE G n cx (.Call (.Name (Str.ofString "_law_mail") p) es [] pos) loc σ P := by
  refine' WE.callD (f := 90) ?hf (WL.g hk hx ?he ⟨rfl, h⟩) hp ?hd
  case hf => rw [hK]; k_is
  case he => rw [hK]; k_is
  case hd => decide

theorem callD_law_told {p pos : Pos} {es : List Expr} (hK : G.K = hd.heap_39 G.w.params) (hk : cx.scope.kind = .function) (hx : cx.scope.names.lookup (Str.ofString "_law_told") = some .globalImplicit) (hp : (es.all fun | .Starred .. => false | _ => true) = true) (h : WEs G n cx es loc σ fun vs σ₂ => OCall G n (.top (.ref 97)) vs σ₂ P) :
    WE G n cx (.Call (.Name (Str.ofString "_law_told") p) es [] pos) loc σ P := by
  refine' WE.callD (f := 97) ?hf (WL.g hk hx ?he ⟨rfl, h⟩) hp ?hd
  case hf => rw [hK]; k_is
  case he => rw [hK]; k_is
  case hd => decide

theorem callD_law_read {p pos : Pos} {es : List Expr} (hK : G.K = hd.heap_39 G.w.params) (hk : cx.scope.kind = .function) (hx : cx.scope.names.lookup (Str.ofString "_law_read") = some .globalImplicit) (hp : (es.all fun | .Starred .. => false | _ => true) = true) (h : WEs G n cx es loc σ fun vs σ₂ => OCall G n (.top (.ref 102)) vs σ₂ P) :
    WE G n cx (.Call (.Name (Str.ofString "_law_read") p) es [] pos) loc σ P := by
  refine' WE.callD (f := 102) ?hf (WL.g hk hx ?he ⟨rfl, h⟩) hp ?hd
  case hf => rw [hK]; k_is
  case he => rw [hK]; k_is
  case hd => decide

theorem callD_law_asked {p pos : Pos} {es : List Expr} (hK : G.K = hd.heap_39 G.w.params) (hk : cx.scope.kind = .function) (hx : cx.scope.names.lookup (Str.ofString "_law_asked") = some .globalImplicit) (hp : (es.all fun | .Starred .. => false | _ => true) = true) (h : WEs G n cx es loc σ fun vs σ₂ => OCall G n (.top (.ref 109)) vs σ₂ P) :
    WE G n cx (.Call (.Name (Str.ofString "_law_asked") p) es [] pos) loc σ P := by
  refine' WE.callD (f := 109) ?hf (WL.g hk hx ?he ⟨rfl, h⟩) hp ?hd
  case hf => rw [hK]; k_is
  case he => rw [hK]; k_is
  case hd => decide

theorem callD_law_shared {p pos : Pos} {es : List Expr} (hK : G.K = hd.heap_39 G.w.params) (hk : cx.scope.kind = .function) (hx : cx.scope.names.lookup (Str.ofString "_law_shared") = some .globalImplicit) (hp : (es.all fun | .Starred .. => false | _ => true) = true) (h : WEs G n cx es loc σ fun vs σ₂ => OCall G n (.top (.ref 116)) vs σ₂ P) :
    WE G n cx (.Call (.Name (Str.ofString "_law_shared") p) es [] pos) loc σ P := by
  refine' WE.callD (f := 116) ?hf (WL.g hk hx ?he ⟨rfl, h⟩) hp ?hd
  case hf => rw [hK]; k_is
  case he => rw [hK]; k_is
  case hd => decide

theorem callD_law_by_colours {p pos : Pos} {es : List Expr} (hK : G.K = hd.heap_39 G.w.params) (hk : cx.scope.kind = .function) (hx : cx.scope.names.lookup (Str.ofString "_law_by_colours") = some .globalImplicit) (hp : (es.all fun | .Starred .. => false | _ => true) = true) (h : WEs G n cx es loc σ fun vs σ₂ => OCall G n (.top (.ref 121)) vs σ₂ P) :
    WE G n cx (.Call (.Name (Str.ofString "_law_by_colours") p) es [] pos) loc σ P := by
  refine' WE.callD (f := 121) ?hf (WL.g hk hx ?he ⟨rfl, h⟩) hp ?hd
  case hf => rw [hK]; k_is
  case he => rw [hK]; k_is
  case hd => decide

theorem callD_law_by_beginnings {p pos : Pos} {es : List Expr} (hK : G.K = hd.heap_39 G.w.params) (hk : cx.scope.kind = .function) (hx : cx.scope.names.lookup (Str.ofString "_law_by_beginnings") = some .globalImplicit) (hp : (es.all fun | .Starred .. => false | _ => true) = true) (h : WEs G n cx es loc σ fun vs σ₂ => OCall G n (.top (.ref 126)) vs σ₂ P) :
    WE G n cx (.Call (.Name (Str.ofString "_law_by_beginnings") p) es [] pos) loc σ P := by
  refine' WE.callD (f := 126) ?hf (WL.g hk hx ?he ⟨rfl, h⟩) hp ?hd
  case hf => rw [hK]; k_is
  case he => rw [hK]; k_is
  case hd => decide

end

section
variable {G : Gl} {n : Nat} {cx : Cx} {loc : Loc} {σ : List MO} {P : MV → List MO → Prop}
theorem WE.neg {i : Int} {k : Nat} {p pos : Pos} (h : P (.int (-i)) σ) : WE G n cx (.UnaryOp .USub (.Constant (.int i) k p) pos) loc σ P := by
  intro A fr env L ρ s Q hA hact hrel hQ
  exact wpAny_UnaryOp (wpAny_Constant_int (PySem.P.neg_int (hQ ρ (.int (-i)) _ loc σ s.heap _ .refl ⟨_, rfl⟩ hrel ⟨rfl, h⟩)))
theorem ld_marker (hK : G.K = hd.heap_39 G.w.params) (hk : cx.scope.kind = .function) (hx : cx.scope.names.lookup (Str.ofString "ELLIPSIS_MARKER") = some .globalImplicit) (h : P (.str (S [46, 46, 46])) σ) : WL G n cx (Str.ofString "ELLIPSIS_MARKER") loc σ P := by
  refine' WL.gs (u := Str.ofString "...") (t := 315) hk hx ?he (by rw [lit_dots]; exact h)
  case he => rw [hK]; k_is
theorem ld_crlf (hK : G.K = hd.heap_39 G.w.params) (hk : cx.scope.kind = .function) (hx : cx.scope.names.lookup (Str.ofString "CRLF") = some .globalImplicit) (h : P (.str (S [13, 10])) σ) : WL G n cx (Str.ofString "CRLF") loc σ P := by
  refine' WL.gs (u := Str.ofString "\x0d\n") (t := 389) hk hx ?he (by rw [show Str.ofString "\x0d\n" = S [13, 10] by decide +kernel]; exact h)
  case he => rw [hK]; k_is
theorem ld_re1 (hK : G.K = hd.heap_39 G.w.params) (hk : cx.scope.kind = .function) (hx : cx.scope.names.lookup (Str.ofString "_twin_re_1") = some .globalImplicit) (h : P (.top (.ref 57)) σ) : WL G n cx (Str.ofString "_twin_re_1") loc σ P := by
  refine' WL.g hk hx ?he h
  case he => rw [hK]; k_is
theorem ld_re2 (hK : G.K = hd.heap_39 G.w.params) (hk : cx.scope.kind = .function) (hx : cx.scope.names.lookup (Str.ofString "_twin_re_2") = some .globalImplicit) (h : P (.top (.ref 62)) σ) : WL G n cx (Str.ofString "_twin_re_2") loc σ P := by
  refine' WL.g hk hx ?he h
  case he => rw [hK]; k_is
end

set_option hygiene false
local macro_rules | `(tactic| wtm_at "rf") => `(tactic| with_unfolding_all rfl)
local macro_rules | `(tactic| wtm_at "dc") => `(tactic| with_unfolding_all decide)
local macro_rules | `(tactic| wtm_at "i1") => `(tactic| with_unfolding_all (intro _; intros; rfl))
local macro_rules | `(tactic| wtm_at "kn") => `(tactic| exact kind_of (by assumption) (by wtm_at "rf"))
local macro_rules | `(tactic| wtm_at "nm") => `(tactic| exact name_of (by assumption) (by wtm_at "rf"))
local macro_rules | `(tactic| wtm_at "get") => `(tactic| first | assumption | (refine pget (by assumption) ?_; wtm_at "get") | (refine sget (by assumption) (by first | assumption | lia) ?_; wtm_at "get"))
local macro_rules | `(tactic| wtm_at "uget") => `(tactic| with_unfolding_all wtm_at "get")
local macro_rules | `(tactic| wtm_at "pre") => `(tactic| first | exact List.prefix_rfl | assumption | (refine List.IsPrefix.trans ?_ (by assumption); wtm_at "pre"))
local macro_rules | `(tactic| wtm_at "look") => `(tactic| first | exact look_eq | assumption | (refine look_ne (by decide) ?_; wtm_at "look"))
local macro_rules | `(tactic| wtm_at "cells") => `(tactic| exact cell_of (by assumption) (by wtm_at "rf"))
local macro_rules | `(tactic| wtm_at "load") => `(tactic| first
  | (apply WL.l; wtm_at "kn"; wtm_at "nm"; with_unfolding_all (wtm_at "look"))
  | refine WL.c (by wtm_at "kn") (.inl (by wtm_at "nm")) (by wtm_at "cells") (by wtm_at "uget") ?_ (by wtm_at "dc")
  | (apply ld_marker; assumption; wtm_at "kn"; wtm_at "nm")
  | (apply ld_crlf; assumption; wtm_at "kn"; wtm_at "nm")
  | refine WL.c (by wtm_at "kn") (.inr (by wtm_at "nm")) (by wtm_at "cells") (by wtm_at "uget") ?_ (by wtm_at "dc"))
local macro_rules | `(tactic| wtm_at "call") => `(tactic| (first
  | apply call_range
  | apply call_len
  | apply call_min
  | apply call_max
  | apply call_abs
  | apply call_int
  | apply call_chr
  | apply call_ord
  | apply call_sum
  | apply call_next
  | apply call_iter
  | apply callD_rgb_to_hsv
  | apply callD_parse_varint
  | apply callD_ellipsis_match
  | apply callD_quotedata
  | apply callD_law_codes
  | apply callD_law_words
  | apply callD_law_mail
  | apply callD_law_told
  | apply callD_law_read
  | apply callD_law_asked
  | apply callD_law_shared
  | apply callD_law_by_colours
  | apply callD_law_by_beginnings); assumption; wtm_at "kn"; wtm_at "nm"; wtm_at "rf")
local macro_rules | `(tactic| wtm_at "meth") => `(tactic| (first
  | apply WE.meth F.plainAttrs_list F.slot_list_append F.type_list_append
  | apply WE.meth F.plainAttrs_str F.slot_str_join F.type_str_join
  | apply WE.meth F.plainAttrs_str F.slot_str_split F.type_str_split
  | apply WE.meth F.plainAttrs_str F.slot_str_startswith F.type_str_startswith
  | apply WE.meth F.plainAttrs_str F.slot_str_endswith F.type_str_endswith
  | apply WE.meth F.plainAttrs_str F.slot_str_find F.type_str_find); wtm_at "i1"; wtm_at "i1"; wtm_at "rf"; wtm_at "rf")
local macro_rules | `(tactic| wtm_at "WS") => `(tactic| first
  | (apply WS.assign; case hs => wtm_at "i1")
  | apply WS.if_
  | apply WS.ret
  | apply WS.aug
  | (apply WS.assignSub; case hs => wtm_at "i1")
  | (apply WS.augSub; case hs => wtm_at "i1")
  | (apply WS.expr; wtm_at "kn"; case hs => wtm_at "i1")
  | apply WS.assert
  | apply WS.delSub)
local macro_rules | `(tactic| wtm_at "WE") => `(tactic| first
  | (apply WE.name; case hd => wtm_at "dc")
  | apply WE.bin
  | apply WE.int
  | (apply WE.cmp; case hm => wtm_at "rf")
  | apply WE.ife
  | (apply WE.upto'; case hs => with_unfolding_all (intro _ _; exact ⟨_, rfl⟩))
  | apply WE.sub
  | apply WE.list
  | apply WE.tup
  | wtm_at "meth"
  | wtm_at "call"
  | apply WE.neg
  | apply WE.flt
  | apply WE.bool
  | apply WE.str' lit_dot
  | apply WE.str' lit_dots
  | apply WE.str' lit_two
  | apply WE.str' lit_crlf
  | apply WE.str' lit_lf
  | apply WE.str' lit_cr
  | apply WE.str' lit_no)
local macro_rules | `(tactic| wtm_at "WB") => `(tactic| first
  | (apply WB.cmp; case hm => wtm_at "rf")
  | apply WB.and
  | apply WB.or
  | (apply WB.of; case he => wtm_at "i1"))
local macro_rules | `(tactic| wtm_at "OB") => `(tactic| first
  | apply OB.add
  | apply OB.sub
  | (apply OB.mod; wtm_at "dc")
  | (apply OB.fdiv; wtm_at "dc"; wtm_at "rf")
  | (apply OB.mul; first | exact .of_left (by wtm_at "dc") | exact .of_right (by wtm_at "dc"))
  | (apply OB.addList'; wtm_at "uget"; wtm_at "uget")
  | apply OB.and
  | apply OB.addF
  | apply OB.subF
  | apply OB.mulF
  | (apply OB.mulIF; wtm_at "dc")
  | (apply O.newList'; case hl => with_unfolding_all simp)
  | (apply O.newTuple'; case hl => with_unfolding_all simp)
  | apply OC.eqS
  | apply OC.notInS
  | apply OC.eq
  | apply OC.ne
  | apply OC.lt
  | apply OC.le
  | apply OC.gt
  | apply OC.ge
  | apply OC.eqF
  | apply OC.neF
  | apply OC.gtFI
  | apply OT.bool
  | apply OT.int
  | apply OI.add
  | apply OI.sub
  | apply OI.or
  | apply OCall.range1'
  | apply OCall.range2'
  | apply OCall.min2
  | apply OCall.ord
  | (apply OCall.lenL; wtm_at "uget"; case hl => with_unfolding_all first | (simp; done) | (simp; lia) | lia)
  | (apply OCall.append'; wtm_at "uget")
  | apply OCall.max3
  | apply OCall.min3
  | apply OCall.abs)
local macro_rules | `(tactic| wtm_at "step") => `(tactic| with_reducible first
  | apply Then.next
  | apply WX.cons
  | (show WS _ _ _ _ _ _ _; wtm_at "WS")
  | (show WE _ _ _ _ _ _ _; wtm_at "WE")
  | (show WL _ _ _ _ _ _ _; wtm_at "load")
  | (apply WN.l; wtm_at "kn"; wtm_at "nm")
  | (apply WN.c'; wtm_at "kn"; wtm_at "nm"; wtm_at "cells"; wtm_at "uget")
  | apply WEs.nil
  | (apply WEs.cons; case he => wtm_at "i1")
  | apply WA.name
  | (show WB _ _ _ _ _ _ _; wtm_at "WB")
  | (show O _ _ _ _ _ _ _; wtm_at "OB")
  | apply Then.ret
  | apply Then.brk
  | apply Then.cont
  | apply WX.nil
  | ((show Undressed (.str _) _ ∧ _); refine ⟨by with_unfolding_all trivial, by wtm_at "rf", ?_⟩)
  | ((show Undressed (.obj _) _ ∧ _); refine ⟨by with_unfolding_all exact ⟨_, by wtm_at "get"⟩, by wtm_at "rf", ?_⟩))

open PySem.StrLaws

theorem occ_empty (x : Str) {i hi : Nat} (h : i ≤ hi) : Builtin.Str.occurrences x (S []) i hi 1 = [i] := by
  have hat : At x (S []) hi i := by
    refine ⟨by rw [S_len]; simpa using h, ?_⟩
    rw [subAt_eq, S_len]; simp [S]
  have hlen := occ_length_le x (S []) i hi 1
  rw [occ_eq] at hlen ⊢
  obtain ⟨m, hm⟩ : ∃ m, hi + 1 - i = m + 1 := ⟨hi - i, by lia⟩
  rcases occ_first x (S []) hi 1 (Nat.le_refl _) (List.range' i (hi + 1 - i)) i (fun j hj => by rw [List.mem_range'_1] at hj; exact hj.1) with ⟨_, h2⟩ | ⟨pre, a, post, h1, h2, h3, h4⟩
  · exact absurd hat (h2 i (by rw [List.mem_range'_1]; lia))
  · have ha : a = i := by
      cases pre with
      | nil =>
        rw [hm, List.range'_succ] at h1
        simp only [List.nil_append, List.cons.injEq] at h1
        exact h1.1.symm
      | cons p pre =>
        rw [hm, List.range'_succ] at h1
        simp only [List.cons_append, List.cons.injEq] at h1
        exact absurd hat (h4 i (by rw [h1.1]; exact List.mem_cons_self))
    subst ha
    generalize (forIn (List.range' a (hi + 1 - a)) (#[], a) (occBody x (S []) hi 1)).run.fst = r at h2 hlen ⊢
    obtain ⟨l⟩ := r
    cases l with
    | nil => simp at h2
    | cons y l =>
      simp at h2 hlen
      subst h2; subst hlen; rfl

noncomputable def Greedy (s sub : Str) (hi : Nat) : Nat → List Nat → Prop
  | free, [] => ∀ i, free ≤ i → ¬ At s sub hi i
  | free, c :: cs => free ≤ c ∧ At s sub hi c ∧ (∀ i, free ≤ i → i < c → ¬ At s sub hi i) ∧ Greedy s sub hi (c + sub.length) cs

theorem greedy_run (s sub : Str) (hi limit : Nat) (hw : 1 ≤ sub.length) : ∀ (m k : Nat) (found : Array Nat) (free : Nat) (cs : List Nat), Greedy s sub hi free cs → (∀ c ∈ cs, k ≤ c) → (∀ c ∈ cs, c < k + m) → found.size + cs.length ≤ limit →
    (forIn (List.range' k m) (found, free) (occBody s sub hi limit)).run.fst.toList = found.toList ++ cs
  | 0, k, found, free, cs, _, h1, h2, _ => by
    cases cs with
    | nil => simp
    | cons c cs => exact absurd (h2 c (by simp)) (by have := h1 c (by simp); lia)
  | m + 1, k, found, free, cs, hg, h1, h2, hl => by
    rw [List.range'_succ, List.forIn_cons]
    cases cs with
    | nil =>
      have hno : occBody s sub hi limit k (found, free) = pure (ForInStep.yield (found, free)) := by
        unfold occBody
        rw [if_neg]
        rintro ⟨⟨⟨_, hf⟩, hle⟩, hs⟩
        exact hg k hf ⟨hle, hs⟩
      rw [hno]
      exact greedy_run s sub hi limit hw m (k + 1) found free [] hg (by simp) (by simp) hl
    | cons c cs =>
      obtain ⟨g1, g2, g3, g4⟩ := hg
      by_cases hk : k = c
      · subst hk
        have hyes : occBody s sub hi limit k (found, free) = pure (ForInStep.yield (found.push k, k + sub.length)) := by
          unfold occBody
          rw [if_pos]
          simp only [List.length_cons] at hl
          exact ⟨⟨⟨by show found.size < limit; lia, g1⟩, g2.1⟩, g2.2⟩
        rw [hyes]
        have hcs : ∀ d ∈ cs, k + sub.length ≤ d := by
          have key : ∀ (cs : List Nat) (free : Nat), Greedy s sub hi free cs → ∀ d ∈ cs, free ≤ d := by
            intro cs
            induction cs with
            | nil => intro _ _ d hd; cases hd
            | cons e cs ih =>
              intro free hg d hd
              rcases List.mem_cons.mp hd with rfl | hd
              · exact hg.1
              · have := ih _ hg.2.2.2 d hd
                have := hg.1; lia
          exact key cs _ g4
        have := greedy_run s sub hi limit hw m (k + 1) (found.push k) (k + sub.length) cs g4 (fun d hd => by have := hcs d hd; lia) (fun d hd => by have := h2 d (by simp [hd]); lia) (by simp only [Array.size_push, List.length_cons] at *; lia)
        rw [Array.toList_push, List.append_assoc] at this
        exact this
      · have hkc : k < c := by have := h1 c (by simp); lia
        have hno : occBody s sub hi limit k (found, free) = pure (ForInStep.yield (found, free)) := by
          unfold occBody
          rw [if_neg]
          rintro ⟨⟨⟨_, hf⟩, hle⟩, hs⟩
          exact g3 k hf hkc ⟨hle, hs⟩
        rw [hno]
        refine greedy_run s sub hi limit hw m (k + 1) found free (c :: cs) ⟨g1, g2, g3, g4⟩ (fun d hd => ?_) (fun d hd => by have := h2 d hd; lia) hl
        rcases List.mem_cons.mp hd with rfl | hd
        · lia
        · have := h1 d (by simp [hd])
          have key : ∀ (cs : List Nat) (free : Nat), Greedy s sub hi free cs → ∀ d ∈ cs, free ≤ d := by
            intro cs
            induction cs with
            | nil => intro _ _ d hd; cases hd
            | cons e cs ih =>
              intro free hg d hd
              rcases List.mem_cons.mp hd with rfl | hd
              · exact hg.1
              · have := ih _ hg.2.2.2 d hd
                have := hg.1; lia
          have := key cs _ g4 d hd
          lia
theorem occ_greedy {s sub : Str} {lo hi limit : Nat} {cs : List Nat} (hw : 1 ≤ sub.length) (hg : Greedy s sub hi lo cs) (hl : cs.length ≤ limit) : Builtin.Str.occurrences s sub lo hi limit = cs := by
  rw [occ_eq]
  have key : ∀ (cs : List Nat) (free : Nat), Greedy s sub hi free cs → ∀ d ∈ cs, free ≤ d ∧ d + sub.length ≤ hi := by
    intro cs
    induction cs with
    | nil => intro _ _ d hd; cases hd
    | cons e cs ih =>
      intro free hg d hd
      rcases List.mem_cons.mp hd with rfl | hd
      · exact ⟨hg.1, hg.2.1.1⟩
      · have := ih _ hg.2.2.2 d hd
        have := hg.1; lia
  have := greedy_run s sub hi limit hw (hi + 1 - lo) lo #[] lo cs hg (fun c hc => (key cs lo hg c hc).1) (fun c hc => by have := key cs lo hg c hc; lia) (by simpa using hl)
  simpa using this

theorem at_iff (l m : List Nat) (hi i : Nat) : At (S l) (S m) hi i ↔ i + m.length ≤ hi ∧ (l.drop i).take m.length = m := by
  unfold At
  rw [subAt_eq, S_len]
  show _ ∧ ((l.toArray.toList.drop i).take m.length == m.toArray.toList) = true ↔ _
  simp

noncomputable def txt (rs : List (List Nat)) : List Nat := (rs.map (· ++ [13, 10])).flatten
noncomputable def cutsOf : Nat → List (List Nat) → List Nat
  | _, [] => []
  | off, r :: rs => (off + r.length) :: cutsOf (off + r.length + 2) rs
theorem txt_cons (r : List Nat) (rs : List (List Nat)) : txt (r :: rs) = r ++ ([13, 10] ++ txt rs) := by simp [txt]
theorem cutsOf_length : ∀ (rs : List (List Nat)) (off : Nat), (cutsOf off rs).length = rs.length
  | [], _ => rfl
  | r :: rs, off => by simp [cutsOf, cutsOf_length rs]
theorem txt_length : ∀ rs : List (List Nat), 2 * rs.length ≤ (txt rs).length
  | [] => by simp
  | r :: rs => by have := txt_length rs; rw [txt_cons]; simp; lia

theorem greedy_rows (l : List Nat) : ∀ (rs : List (List Nat)) (off : Nat), (∀ r ∈ rs, 13 ∉ r) → l.drop off = txt rs → off ≤ l.length → Greedy (S l) (S [13, 10]) l.length off (cutsOf off rs)
  | [], off, _, hd, hlen => by
    intro i hi hat
    rw [at_iff] at hat
    have h2 : l.length = off := by
      have := congrArg List.length hd
      rw [List.length_drop] at this
      simp [txt] at this; lia
    have := hat.1
    simp at this; lia
  | r :: rs, off, hr, hd, hlen => by
    have hl : l.length = off + (txt (r :: rs)).length := by
      have := congrArg List.length hd
      rw [List.length_drop] at this; lia
    have hlr : l.length = off + (r.length + (2 + (txt rs).length)) := by
      rw [hl, txt_cons]; simp; lia
    have hdc : l.drop (off + r.length) = [13, 10] ++ txt rs := by
      rw [← List.drop_drop, hd, txt_cons, List.drop_left]
    refine ⟨by lia, ?_, fun i h1 h2 hat => ?_, ?_⟩
    · rw [at_iff, hdc]
      exact ⟨by simp; lia, rfl⟩
    · rw [at_iff] at hat
      have h3 : l.drop i = (r ++ ([13, 10] ++ txt rs)).drop (i - off) := by
        rw [← txt_cons, ← hd, List.drop_drop]; congr 1; lia
      rw [h3, List.drop_append_of_le_length (by lia)] at hat
      have h4 : i - off < r.length := by lia
      rw [List.drop_eq_getElem_cons h4] at hat
      have h5 := hat.2
      have hm := List.getElem_mem h4
      generalize r.drop (i - off + 1) = q at h5
      generalize r[i - off] = y at h5 hm
      simp at h5
      exact hr r (by simp) (h5.1 ▸ hm)
    · have hd2 : l.drop (off + r.length + 2) = txt rs := by
        rw [← List.drop_drop, hdc]; rfl
      exact greedy_rows l rs (off + r.length + 2) (fun q hq => hr q (by simp [hq])) hd2 (by lia)

theorem strSub_S (l : List Nat) (i j : Nat) : Builtin.Str.strSub (S l) i j = S ((l.drop i).take (j - i)) := by
  have h := strSub_toList (S l) i j
  have e : ∀ (s : Str) (m : List Nat), s.cps.toList = m → s = S m := fun s m hm => by
    obtain ⟨⟨a⟩⟩ := s
    subst hm; rfl
  exact e _ _ (by rw [h]; rfl)

theorem parts_rows (l : List Nat) : ∀ (rs : List (List Nat)) (off : Nat), l.drop off = txt rs → off ≤ l.length → partsFrom (S l) 2 off (cutsOf off rs) = rs.map S ++ [S []]
  | [], off, hd, hlen => by
    have h2 : l.length = off := by
      have := congrArg List.length hd
      rw [List.length_drop] at this
      simp [txt] at this; lia
    show [Builtin.Str.strSub (S l) off (S l).length] = _
    rw [strSub_S, S_len, h2]; simp
  | r :: rs, off, hd, hlen => by
    have hl : l.length = off + (txt (r :: rs)).length := by
      have := congrArg List.length hd
      rw [List.length_drop] at this; lia
    have hlr : l.length = off + (r.length + (2 + (txt rs).length)) := by
      rw [hl, txt_cons]; simp; lia
    have hdc : l.drop (off + r.length) = [13, 10] ++ txt rs := by
      rw [← List.drop_drop, hd, txt_cons, List.drop_left]
    have hd2 : l.drop (off + r.length + 2) = txt rs := by
      rw [← List.drop_drop, hdc]; rfl
    show Builtin.Str.strSub (S l) off (off + r.length) :: partsFrom (S l) 2 (off + r.length + 2) (cutsOf (off + r.length + 2) rs) = _
    rw [parts_rows l rs _ hd2 (by lia), strSub_S, hd, txt_cons]
    have : off + r.length - off = r.length := by lia
    rw [this, List.take_left]; rfl

theorem kind_ge (x : Str) : decide (Builtin.Str.strKind x < 1) = false := by
  unfold Builtin.Str.strKind
  apply decide_eq_false
  split
  · lia
  · split <;> lia

theorem split_rows (rs : List (List Nat)) (hr : ∀ r ∈ rs, 13 ∉ r) : Txt.split (S (txt rs)) (S [13, 10]) = rs.map S ++ [S []] := by
  have hocc : Builtin.Str.occurrences (S (txt rs)) (S [13, 10]) 0 (S (txt rs)).length ((S (txt rs)).length + 1) = cutsOf 0 rs := by
    rw [S_len]
    refine occ_greedy (by decide) (greedy_rows (txt rs) rs 0 hr rfl (Nat.zero_le _)) ?_
    rw [cutsOf_length]
    have := txt_length rs; lia
  unfold Txt.split
  rw [hocc]
  have hk : decide (Builtin.Str.strKind (S (txt rs)) < Builtin.Str.strKind (S [13, 10])) = false := by
    rw [show Builtin.Str.strKind (S [13, 10]) = 1 by decide +kernel]
    exact kind_ge _
  rw [hk, Bool.or_false]
  cases rs with
  | nil => rfl
  | cons r rs =>
    have : decide ((S (txt (r :: rs))).length < (S [13, 10]).length) = false := by
      apply decide_eq_false
      rw [S_len, S_len, txt_cons]; simp; lia
    rw [this]
    simp only [Bool.false_eq_true, if_false]
    rw [if_neg (by simp [cutsOf]), partsBetween_eq]
    exact parts_rows (txt (r :: rs)) (r :: rs) 0 rfl (Nat.zero_le _)

noncomputable def NoDots (l : List Nat) : Prop := ∀ i, i < l.length → ∀ t : List Nat, ((l ++ t).drop i).take 3 ≠ [46, 46, 46]
theorem NoDots.nil : NoDots [] := fun i h => by cases h
theorem NoDots.append {l m : List Nat} (hl : NoDots l) (hm : NoDots m) : NoDots (l ++ m) := by
  intro i hi t
  rw [List.append_assoc]
  by_cases h : i < l.length
  · exact hl i h (m ++ t)
  · have e : (l ++ (m ++ t)).drop i = (m ++ t).drop (i - l.length) := by
      rw [List.drop_append, List.drop_of_length_le (by lia), List.nil_append]
    rw [e]
    exact hm (i - l.length) (by rw [List.length_append] at hi; lia) t
theorem NoDots.row0 {c : Nat} (hc : c ≠ 46) : NoDots [c, 13, 10] := by
  intro i hi t
  match i, hi with
  | 0, _ => simp [hc]
  | 1, _ => simp
  | 2, _ => simp
theorem NoDots.row2 {c : Nat} (hc : c ≠ 46) : NoDots [46, 46, c, 13, 10] := by
  intro i hi t
  match i, hi with
  | 0, _ => simp [hc]
  | 1, _ => simp [hc]
  | 2, _ => simp [hc]
  | 3, _ => simp
  | 4, _ => simp
theorem split_dots {st : List Nat} (h : NoDots st) : Txt.split (S (st ++ [46, 46, 46])) (S [46, 46, 46]) = [S st, S []] ∧
    (Builtin.Str.occurrences (S (st ++ [46, 46, 46])) (S [46, 46, 46]) 0 (S (st ++ [46, 46, 46])).length 1).isEmpty = false := by
  have hg : Greedy (S (st ++ [46, 46, 46])) (S [46, 46, 46]) (st ++ [46, 46, 46]).length 0 [st.length] := by
    refine ⟨Nat.zero_le _, ?_, fun i _ hi hat => ?_, fun i hi hat => ?_⟩
    · rw [at_iff]
      refine ⟨by simp, ?_⟩
      rw [List.drop_left]; rfl
    · rw [at_iff] at hat
      exact h i hi _ hat.2
    · rw [at_iff] at hat
      have := hat.1
      rw [S_len] at hi
      simp at this hi; lia
  have h1 : Builtin.Str.occurrences (S (st ++ [46, 46, 46])) (S [46, 46, 46]) 0 (S (st ++ [46, 46, 46])).length ((S (st ++ [46, 46, 46])).length + 1) = [st.length] := by
    rw [S_len]
    exact occ_greedy (by decide) hg (by simp)
  have h2 : Builtin.Str.occurrences (S (st ++ [46, 46, 46])) (S [46, 46, 46]) 0 (S (st ++ [46, 46, 46])).length 1 = [st.length] := by
    rw [S_len]
    exact occ_greedy (by decide) hg (by simp)
  refine ⟨?_, by rw [h2]; rfl⟩
  unfold Txt.split
  rw [h1]
  have hk : decide (Builtin.Str.strKind (S (st ++ [46, 46, 46])) < Builtin.Str.strKind (S [46, 46, 46])) = false := by
    rw [show Builtin.Str.strKind (S [46, 46, 46]) = 1 by decide +kernel]
    exact kind_ge _
  have hl : decide ((S (st ++ [46, 46, 46])).length < (S [46, 46, 46]).length) = false := by
    apply decide_eq_false
    rw [S_len, S_len]; simp
  rw [hk, hl]
  simp only [Bool.or_false, Bool.false_eq_true, if_false]
  rw [if_neg (by simp), partsBetween_eq]
  show [Builtin.Str.strSub (S (st ++ [46, 46, 46])) 0 st.length, Builtin.Str.strSub (S (st ++ [46, 46, 46])) (st.length + 3) (S (st ++ [46, 46, 46])).length] = _
  rw [strSub_S, strSub_S, S_len]
  simp

noncomputable def toldOf (w : List Int) : List Int := w.flatMap fun x => (List.replicate (x % 2).toNat [46, 46]).flatten ++ [64 * (33 + x / 2) + 13, 10]

theorem toldOf_snoc (w : List Int) (x : Int) : toldOf (w ++ [x]) = toldOf w ++ ((List.replicate (x % 2).toNat [46, 46]).flatten ++ [64 * (33 + x / 2) + 13, 10]) := by
  simp [toldOf]
theorem toldOf_len : ∀ (w : List Int), (∀ x ∈ w, 0 ≤ x ∧ x < 6) → (toldOf w).length ≤ 4 * w.length
  | [], _ => by simp [toldOf]
  | x :: w, h => by
    have ih := toldOf_len w fun y hy => h y (by simp [hy])
    have h2 : (x % 2).toNat ≤ 1 := by lia
    unfold toldOf at ih ⊢
    rw [List.flatMap_cons, List.length_append, List.length_append]
    have : ((List.replicate (x % 2).toNat [(46 : Int), 46]).flatten).length ≤ 2 := by
      rw [List.length_flatten]; simp; lia
    simp only [List.length_cons, List.length_nil] at *
    lia

theorem told_c {G : Gl} {n : Nat} {σ : List MO} {P : MV → List MO → Prop} (hK : G.K = hd.heap_39 G.w.params) {k : Nat} {xs : List Int} (hk : LI σ k xs) (hx6 : ∀ x ∈ xs, 0 ≤ x ∧ x < 6) (hlen : xs.length ≤ 1000)
   (hP : ∀ σ' j, σ <+: σ' → σ.length ≤ j → LI σ' j (toldOf xs) → P (.obj j) σ') : OCall G (n + 1) (.top (.ref 97)) [.obj k] σ P := by
  refine' OCall.def0 (loc := [(Str.ofString "word", (.obj k))]) [Str.ofString "word"] ?ho ?hcd ?hb ?hkx ?hnc ?hco ?hgen ?hkk ?hloc ?hbody
  case ho => rw [hK]; k_is
  case hcd => rw [hK]; k_is
  case hb => intro us hus; obtain ⟨_, rfl⟩ := len1 hus; rfl
  case hkx => decide
  case hnc => decide
  case hco => rfl
  case hgen => rfl
  case hkk => rfl
  case hloc => rfl
  intro cx hsc hcc
  repeat wtm_at "step"
  intro σ₁ k₁ p₁ e₁ l₁
  repeat wtm_at "step"
  refine WS.for_ ?_
  repeat wtm_at "step"
  refine ⟨_, _, Src.list (by wtm_at "get"), by wtm_at "get", ?_⟩
  refine forChain_inv (fun i loc σ' => σ <+: σ' ∧ ∃ j, loc.lookup (Str.ofString "told") = some (.obj j) ∧ LI σ' j (toldOf (xs.take i)) ∧ σ.length ≤ j) ?_ ?_ ?_ ?_
  · rintro i x loc σ₂ hx hok ⟨p₂, j, hj, hl, hge⟩
    rw [List.getElem?_map, Option.map_eq_some_iff] at hx
    obtain ⟨y, hy, rfl⟩ := hx
    have h6 := hx6 y (List.mem_of_getElem? hy)
    have htl : (toldOf (xs.take i)).length ≤ 4000 := by
      have := toldOf_len (xs.take i) fun z hz => hx6 z (List.mem_of_mem_take hz)
      rw [List.length_take] at this; lia
    have hy2 : y.fmod 2 = y % 2 := by rw [Int.fmod_eq_emod_of_nonneg _ (by lia)]
    have hyd : y.fdiv 2 = y / 2 := by rw [Int.fdiv_eq_ediv_of_nonneg _ (by lia)]
    unfold LI at hl
    repeat wtm_at "step"
    intro σ₃ k₃ p₃ e₃ l₃
    repeat wtm_at "step"
    refine OB.mulList' (by wtm_at "get") (by rw [hy2]; lia) (by rw [hy2]; lia) (by rw [hy2]; simp; lia) ?_
    intro σ₄ k₄ p₄ e₄ l₄
    repeat wtm_at "step"
    · simp; rw [hy2]; lia
    intro σ₅ k₅ p₅ e₅ l₅
    repeat wtm_at "step"
    intro σ₆ k₆ p₆ e₆ l₆
    repeat wtm_at "step"
    · simp; rw [hy2]; lia
    intro σ₇ k₇ p₇ e₇ l₇
    repeat wtm_at "step"
    refine ⟨by wtm_at "get", by wtm_at "pre", k₇, by wtm_at "look", ?_, by have := p₂.length_le; have := p₃.length_le; have := p₄.length_le; have := p₅.length_le; have := p₆.length_le; lia⟩
    rw [List.take_add_one, hy]
    show σ₇[k₇]? = some (.list ((toldOf (xs.take i ++ [y])).map .int))
    rw [toldOf_snoc, e₇, hy2, hyd]
    simp [List.map_flatten]
  · rintro loc σ₂ hok ⟨p₂, j, hj, hl, hge⟩
    repeat wtm_at "step"
    refine ⟨_, rfl, ?_⟩
    rw [List.length_map, List.take_length] at hl
    exact hP _ _ p₂ hge hl
  · exact ⟨p₁, k₁, by wtm_at "look", e₁, l₁⟩
  · wtm_at "get"

noncomputable def endOf (i : Int) : List Nat := if i % 3 = 0 then [13, 10] else if i % 3 = 1 then [10] else [13]
noncomputable def mailRow (x i : Int) : List Nat := (List.replicate (x % 2).toNat [46]).flatten ++ [(97 + x / 2).toNat] ++ endOf i
noncomputable def mailRows (code : Int) : Nat → List Int → List (List Nat)
  | _, [] => []
  | k, x :: w => mailRow x (code + k) :: mailRows code (k + 1) w

theorem mailRows_snoc (code : Int) : ∀ (w : List Int) (k : Nat) (x : Int), mailRows code k (w ++ [x]) = mailRows code k w ++ [mailRow x (code + (k + w.length : Nat))]
  | [], k, x => by simp [mailRows]
  | y :: w, k, x => by
    rw [List.cons_append, mailRows, mailRows_snoc code w (k + 1) x, mailRows, List.cons_append, List.length_cons]
    congr 4; lia
theorem mailRow_len {x i : Int} (h : 0 ≤ x ∧ x < 6) : (mailRow x i).length ≤ 4 := by
  unfold mailRow endOf
  have : (x % 2).toNat ≤ 1 := by lia
  rw [List.length_append, List.length_append, List.length_flatten]
  simp only [List.map_replicate, List.length_cons, List.length_nil, List.sum_replicate_nat]
  split
  · simp; lia
  · split <;> simp <;> lia
theorem mailRows_len (code : Int) : ∀ (w : List Int) (k : Nat), (∀ x ∈ w, 0 ≤ x ∧ x < 6) → (mailRows code k w).length = w.length ∧ (mailRows code k w).flatten.length ≤ 4 * w.length
  | [], _, _ => by simp [mailRows]
  | x :: w, k, h => by
    obtain ⟨h1, h2⟩ := mailRows_len code w (k + 1) fun y hy => h y (by simp [hy])
    have h3 := mailRow_len (i := code + k) (h x (by simp))
    rw [mailRows, List.length_cons, h1, List.flatten_cons, List.length_append, List.length_cons]
    constructor <;> lia

theorem mail_c {G : Gl} {n : Nat} {σ : List MO} {P : MV → List MO → Prop} (hK : G.K = hd.heap_39 G.w.params) {k : Nat} {xs : List Int} {code : Int} (hk : LI σ k xs) (hx6 : ∀ x ∈ xs, 0 ≤ x ∧ x < 6) (hlen : xs.length ≤ 1000)
   (hP : ∀ σ', σ <+: σ' → P (.str (S (mailRows code 0 xs).flatten)) σ') : OCall G (n + 1) (.top (.ref 90)) [.obj k, .int code] σ P := by
  unfold LI at hk
  refine' OCall.def0 (loc := [(Str.ofString "code", (.int code)), (Str.ofString "word", (.obj k))]) [Str.ofString "word", Str.ofString "code"] ?ho ?hcd ?hb ?hkx ?hnc ?hco ?hgen ?hkk ?hloc ?hbody
  case ho => rw [hK]; k_is
  case hcd => rw [hK]; k_is
  case hb => intro us hus; obtain ⟨_, _, rfl⟩ := len2 hus; rfl
  case hkx => decide
  case hnc => decide
  case hco => rfl
  case hgen => rfl
  case hkk => rfl
  case hloc => rfl
  intro cx hsc hcc
  repeat wtm_at "step"
  intro σ₁ k₁ p₁ e₁ l₁
  repeat wtm_at "step"
  intro σ₂ k₂ p₂ e₂ l₂
  repeat wtm_at "step"
  refine WS.for_ ?_
  repeat wtm_at "step"
  intro σ₃ k₃ p₃ e₃ l₃
  rw [List.length_map] at e₃
  refine ⟨_, _, Src.rng e₃ (by decide) (by decide) (by lia) (by lia), trivial, ?_⟩
  refine forChain_inv (fun i loc σ' => σ₁ <+: σ' ∧ loc.lookup (Str.ofString "rows") = some (.obj k₂) ∧ loc.lookup (Str.ofString "ends") = some (.obj k₁) ∧ loc.lookup (Str.ofString "code") = some (.int code) ∧ loc.lookup (Str.ofString "word") = some (.obj k) ∧
    σ'[k₂]? = some (.list ((mailRows code 0 (xs.take i)).map fun l => .str (S l)))) ?_ ?_ ?_ ?_
  · rintro i x loc σ₄ hx hok ⟨p₄, hr, he, hc, hw, hl⟩
    have hi : i < xs.length := by
      have := (rngL_get hx).1
      lia
    obtain ⟨_, rfl⟩ := rngL_get hx
    have hy : xs[i]? = some xs[i] := List.getElem?_eq_getElem hi
    generalize xs[i] = y at hy
    have h6 := hx6 y (List.mem_of_getElem? hy)
    have hml := mailRows_len code (xs.take i) 0 fun z hz => hx6 z (List.mem_of_mem_take hz)
    rw [List.length_take] at hml
    have hy2 : y.fmod 2 = y % 2 := by rw [Int.fmod_eq_emod_of_nonneg _ (by lia)]
    have hyd : y.fdiv 2 = y / 2 := by rw [Int.fdiv_eq_ediv_of_nonneg _ (by lia)]
    have hsub : ∀ {Q : MV → List MO → Prop} {value slice : Expr}, (Q (.int y) σ₄) → (∀ o i, ∃ ops, subscripted slice false o i = operate ops (getItem o i)) → O G n RV [.obj k, .int (0 + (i : Int))] (SubT value slice) σ₄ Q := fun h hs => by
      refine OS.list (xs := xs.map .int) (by wtm_at "get") (by lia) (by simp; lia) (by simp; lia) ?_ h hs
      unfold ixOf
      rw [if_pos (by lia)]
      have : (0 + (i : Int)).toNat = i := by lia
      rw [this]; simp [hy]
    repeat wtm_at "step"
    refine hsub ?_ (by intro _ _; exact ⟨_, rfl⟩)
    repeat wtm_at "step"
    refine OB.mulS (by rw [hy2]; lia) (by rw [hy2]; lia) (by rw [hy2]; simp; lia) ?_
    repeat wtm_at "step"
    refine hsub ?_ (by intro _ _; exact ⟨_, rfl⟩)
    repeat wtm_at "step"
    refine OCall.chr (by rw [hyd]; lia) (by rw [hyd]; lia) ?_
    refine OB.addS ?_ ?_
    · simp; rw [hy2]; lia
    repeat wtm_at "step"
    have hends : ∃ m : Nat, ((code + (0 + (i : Int))).fmod 3) = m ∧ m < 3 ∧ [MV.str (S [13, 10]), MV.str (S [10]), MV.str (S [13])][m]? = some (.str (S (endOf (code + i)))) := by
      rw [Int.fmod_eq_emod_of_nonneg _ (by lia)]
      unfold endOf
      have h3 : (code + (0 + (i : Int))) % 3 = (code + (i : Int)) % 3 := by congr 1; lia
      rw [h3]
      rcases (show (code + (i : Int)) % 3 = 0 ∨ (code + (i : Int)) % 3 = 1 ∨ (code + (i : Int)) % 3 = 2 by lia) with h | h | h <;> rw [h]
      · exact ⟨0, rfl, by decide, rfl⟩
      · exact ⟨1, rfl, by decide, rfl⟩
      · exact ⟨2, rfl, by decide, rfl⟩
    obtain ⟨m, hm1, hm2, hm3⟩ := hends
    rw [hm1]
    refine OS.list (by wtm_at "get") (by lia) (by simp; lia) (by simp) (by unfold ixOf; rw [if_pos (by lia)]; exact hm3) ?_ (by intro _ _; exact ⟨_, rfl⟩)
    have hel : (endOf (code + (i : Int))).length ≤ 2 := by unfold endOf; split; simp; split <;> simp
    refine OB.addS ?_ ?_
    · simp; rw [hy2]; lia
    repeat wtm_at "step"
    · simp; lia
    intro σ₅ q₅ b₅ e₅ a₅
    repeat wtm_at "step"
    refine ⟨rfl, ?_⟩
    repeat wtm_at "step"
    refine ⟨trivial, a₅ _ (by wtm_at "pre") (by lia), by wtm_at "look", by wtm_at "look", by wtm_at "look", by wtm_at "look", ?_⟩
    rw [e₅, List.take_add_one, hy]
    show _ = some (MO.list (((mailRows code 0 (List.take i xs ++ [y]))).map fun l => .str (S l)))
    rw [mailRows_snoc, List.map_append, List.length_take, Nat.min_eq_left (Nat.le_of_lt hi), Nat.zero_add]
    unfold mailRow
    rw [hy2, hyd]
    rfl
  · rintro loc σ₄ hok ⟨p₄, hr, he, hc, hw, hl⟩
    repeat wtm_at "step"
    rw [show (rngL 0 (xs.length : Int)).length = xs.length by rw [rngL_length]; lia, List.take_length] at hl
    refine OCall.join hl ?_ ?_
    · have := (mailRows_len code xs 0 hx6).2; lia
    repeat wtm_at "step"
    exact ⟨_, rfl, hP _ (by wtm_at "pre")⟩
  · exact ⟨by wtm_at "pre", by wtm_at "look", by wtm_at "look", by wtm_at "look", by wtm_at "look", by
      rw [List.take_zero]
      exact pget p₃ e₂⟩
  · trivial

noncomputable def elderOf (ws : List (List Int)) (code : Int) : List Int := if ws = [] then [] else ws.getD (code % 5 % ws.length).toNat []
noncomputable def wordOf (ws : List (List Int)) (code : Int) : List Int :=
  (elderOf ws code).take (code / 5 % ((elderOf ws code).length + 1)).toNat ++ [code / 30 / 3 % 6, code / 30 / 18 % 6].take (code / 30 % 3).toNat
noncomputable def wordsOf (codes : List Int) : List (List Int) := codes.foldl (fun ws c => ws ++ [wordOf ws c]) []
theorem wordsOf_snoc (codes : List Int) (c : Int) : wordsOf (codes ++ [c]) = wordsOf codes ++ [wordOf (wordsOf codes) c] := by
  simp [wordsOf]
theorem wordsOf_length (codes : List Int) : (wordsOf codes).length = codes.length := by
  have key : ∀ (codes : List Int) (ws : List (List Int)), (codes.foldl (fun ws c => ws ++ [wordOf ws c]) ws).length = ws.length + codes.length := by
    intro codes
    induction codes with
    | nil => intro ws; rfl
    | cons c codes ih => intro ws; rw [List.foldl_cons, ih]; simp; lia
  have := key codes []
  simpa [wordsOf] using this
theorem getD_mem {α : Type} {l : List (List α)} {i : Nat} : l.getD i [] = [] ∨ l.getD i [] ∈ l := by
  rw [List.getD_eq_getElem?_getD]
  cases h : l[i]? with
  | none => exact .inl rfl
  | some x => exact .inr (List.mem_of_getElem? h)
theorem wordOf_len {ws : List (List Int)} {B : Nat} (h : ∀ w ∈ ws, w.length ≤ B) (code : Int) : (wordOf ws code).length ≤ B + 2 ∧ (elderOf ws code).length ≤ B := by
  have h1 : (elderOf ws code).length ≤ B := by
    unfold elderOf
    split
    · simp
    · rcases getD_mem (l := ws) (i := (code % 5 % ws.length).toNat) with e | e
      · rw [e]; simp
      · exact h _ e
  refine ⟨?_, h1⟩
  unfold wordOf
  rw [List.length_append, List.length_take, List.length_take]
  simp only [List.length_cons, List.length_nil]
  lia
theorem wordsOf_len : ∀ (codes : List Int), ∀ w ∈ wordsOf codes, w.length ≤ 2 * codes.length := by
  have key : ∀ (codes : List Int) (ws : List (List Int)) (B : Nat), (∀ w ∈ ws, w.length ≤ B) → ∀ w ∈ codes.foldl (fun ws c => ws ++ [wordOf ws c]) ws, w.length ≤ B + 2 * codes.length := by
    intro codes
    induction codes with
    | nil => intro ws B h w hw; exact h w hw
    | cons c codes ih =>
      intro ws B h w hw
      have := ih (ws ++ [wordOf ws c]) (B + 2) (fun v hv => by
        rcases List.mem_append.mp hv with hv | hv
        · exact Nat.le_succ_of_le (Nat.le_succ_of_le (h v hv))
        · rw [List.mem_singleton.mp hv]; exact (wordOf_len h c).1) w hw
      rw [List.length_cons]; lia
  intro codes w hw
  have := key codes [] 0 (by simp) w hw
  lia
theorem wordsOf_six : ∀ (codes : List Int), ∀ w ∈ wordsOf codes, ∀ x ∈ w, 0 ≤ x ∧ x < 6 := by
  have key : ∀ (codes : List Int) (ws : List (List Int)), (∀ w ∈ ws, ∀ x ∈ w, 0 ≤ x ∧ x < 6) → ∀ w ∈ codes.foldl (fun ws c => ws ++ [wordOf ws c]) ws, ∀ x ∈ w, 0 ≤ x ∧ x < 6 := by
    intro codes
    induction codes with
    | nil => intro ws h w hw; exact h w hw
    | cons c codes ih =>
      intro ws h w hw
      refine ih (ws ++ [wordOf ws c]) (fun v hv => ?_) w hw
      rcases List.mem_append.mp hv with hv | hv
      · exact h v hv
      · rw [List.mem_singleton.mp hv]
        intro x hx
        unfold wordOf at hx
        rcases List.mem_append.mp hx with hx | hx
        · have hx := List.mem_of_mem_take hx
          unfold elderOf at hx
          split at hx
          · cases hx
          · rcases getD_mem (l := ws) (i := (c % 5 % ws.length).toNat) with e | e
            · rw [e] at hx; cases hx
            · exact h _ e x hx
        · have hx := List.mem_of_mem_take hx
          simp only [List.mem_cons, List.not_mem_nil, or_false] at hx
          rcases hx with rfl | rfl <;> lia
  intro codes
  exact key codes [] (by simp)

theorem LIs.pre {σ σ' : List MO} {ks : List Nat} {nss : List (List Int)} (p : σ <+: σ') (h : LIs σ ks nss) : LIs σ' ks nss := h.mono fun _ _ _ q => pget p q

theorem words_c {G : Gl} {n : Nat} {σ : List MO} {P : MV → List MO → Prop} (hK : G.K = hd.heap_39 G.w.params) (hn : 5 ≤ n) {k : Nat} {xs : List Int} (hk : LI σ k xs) (hx6 : ∀ x ∈ xs, 0 ≤ x) (hlen : xs.length ≤ 1000)
   (hP : ∀ σ' j ks, σ <+: σ' → σ'[j]? = some (.list (ks.map .obj)) → LIs σ' ks (wordsOf xs) → P (.obj j) σ') : OCall G (n + 1) (.top (.ref 83)) [.obj k] σ P := by
  unfold LI at hk
  have hklt : k < σ.length := (List.getElem?_eq_some_iff.mp hk).1
  refine' OCall.def0 (loc := [(Str.ofString "codes", (.obj k))]) [Str.ofString "codes"] ?ho ?hcd ?hb ?hkx ?hnc ?hco ?hgen ?hkk ?hloc ?hbody
  case ho => rw [hK]; k_is
  case hcd => rw [hK]; k_is
  case hb => intro us hus; obtain ⟨_, rfl⟩ := len1 hus; rfl
  case hkx => decide
  case hnc => decide
  case hco => rfl
  case hgen => rfl
  case hkk => rfl
  case hloc => rfl
  intro cx hsc hcc
  repeat wtm_at "step"
  intro σ₁ k₁ p₁ e₁ l₁
  repeat wtm_at "step"
  refine WS.for_ ?_
  repeat wtm_at "step"
  refine ⟨_, _, Src.list (by wtm_at "get"), by wtm_at "get", ?_⟩
  refine forChain_inv (fun i loc σ' => σ <+: σ' ∧ loc.lookup (Str.ofString "words") = some (.obj k₁) ∧ ∃ ks : List Nat, σ'[k₁]? = some (.list (ks.map .obj)) ∧ LIs σ' ks (wordsOf (xs.take i)) ∧ ∀ q ∈ ks, k₁ < q) ?_ ?_ ?_ ?_
  · rintro i x loc σ₂ hx hok ⟨p₂, hw, ks, hks, hls, hgt⟩
    rw [List.getElem?_map, Option.map_eq_some_iff] at hx
    obtain ⟨c, hc, rfl⟩ := hx
    have h6 := hx6 c (List.mem_of_getElem? hc)
    have hkl := hls.length
    have hi : i < xs.length := (List.getElem?_eq_some_iff.mp hc).1
    have hwl := wordsOf_length (xs.take i)
    rw [List.length_take] at hwl
    have hwn := wordOf_len (wordsOf_len (xs.take i)) c
    rw [List.length_take] at hwn
    have fd : ∀ (a b : Int), 0 < b → a.fdiv b = a / b := fun a b hb => Int.fdiv_eq_ediv_of_nonneg _ (by lia)
    have fm : ∀ (a b : Int), 0 < b → a.fmod b = a % b := fun a b hb => Int.fmod_eq_emod_of_nonneg _ (by lia)
    have hlt : k₁ < σ₂.length := (List.getElem?_eq_some_iff.mp hks).1
    generalize hws : wordsOf (xs.take i) = ws at *
    wtm_at "step"
    wtm_at "step"
    wtm_at "step"
    wtm_at "step"
    refine WE.mono (P := fun v σ' => ∃ ke, v = .obj ke ∧ σ₂ <+: σ' ∧ LI σ' ke (elderOf ws c)) ?_ ?_
    · repeat wtm_at "step"
      intro σ₃ k₃ p₃ e₃ l₃
      refine OC.neLL (ks := ks) (js := []) (xs := ws) (ys := []) (by wtm_at "get") (hls.pre p₃) e₃ .nil hn ?_
      repeat wtm_at "step"
      refine ⟨fun hne => ?_, fun heq => ?_⟩
      · have hne : ws ≠ [] := by simpa using hne
        have hpos : 0 < ws.length := List.length_pos_iff.mpr hne
        repeat wtm_at "step"
        rw [fm c 5 (by lia)]
        refine OB.mod (by rw [List.length_map]; lia) ?_
        rw [fm _ _ (by rw [List.length_map]; lia), List.length_map, hkl]
        have hix : (c % 5 % (ws.length : Int)).toNat < ws.length := by
          have := Int.emod_lt_of_pos (c % 5) (show (0 : Int) < ws.length by lia)
          have := Int.emod_nonneg (c % 5) (show (ws.length : Int) ≠ 0 by lia)
          lia
        have hix0 := Int.emod_nonneg (c % 5) (show (ws.length : Int) ≠ 0 by lia)
        obtain ⟨ke, hke, hle⟩ := hls.get' (List.getElem?_eq_getElem hix)
        refine OS.list (xs := ks.map .obj) (v := .obj ke) (by wtm_at "get") (by lia) (by simp; lia) (by simp; lia) (by unfold ixOf; rw [if_pos hix0]; simp [hke]) ?_ (by intro _ _; exact ⟨_, rfl⟩)
        refine ⟨ke, rfl, p₃, ?_⟩
        unfold elderOf
        rw [if_neg hne, List.getD_eq_getElem?_getD, List.getElem?_eq_getElem hix]
        exact pget p₃ hle
      · have heq : ws = [] := by simpa using heq
        repeat wtm_at "step"
        intro σ₄ k₄ p₄ e₄ l₄
        refine ⟨k₄, rfl, by wtm_at "pre", ?_⟩
        unfold elderOf
        rw [if_pos heq]
        exact e₄
    · rintro v σ₃ ⟨ke, rfl, p₃, he⟩
      unfold LI at he
      repeat wtm_at "step"
      rw [fd c 5 (by lia)]
      refine OB.mod (by rw [List.length_map]; lia) ?_
      rw [fm _ _ (by rw [List.length_map]; lia), List.length_map]
      repeat wtm_at "step"
      rw [fd c 30 (by lia)]
      repeat wtm_at "step"
      refine ⟨_, _, _, rfl, he, by simp; lia, rfl, ?_, ?_⟩
      · have := Int.emod_nonneg (c / 5) (show ((elderOf ws c).length + 1 : Int) ≠ 0 by lia)
        lia
      intro σ₄ k₄ p₄ e₄ l₄
      repeat wtm_at "step"
      intro σ₅ k₅ p₅ e₅ l₅
      repeat wtm_at "step"
      refine ⟨_, _, _, rfl, e₅, by simp, rfl, ?_, ?_⟩
      · rw [fm _ _ (by lia)]; lia
      intro σ₆ k₆ p₆ e₆ l₆
      have hul : ∀ {α : Type} (l : List α) (j : Int), (upto l j).length ≤ l.length := fun l j => by
        unfold upto; split <;> rw [List.length_take] <;> lia
      repeat wtm_at "step"
      · have h1 := hul (List.map MV.int (elderOf ws c)) (c / 5 % (↑(elderOf ws c).length + 1))
        have h2 := hul [MV.int (((c / 30).fdiv 3).fmod 6), MV.int (((c / 30).fdiv 18).fmod 6)] ((c / 30).fmod 3)
        rw [List.length_map] at h1
        simp only [List.length_cons, List.length_nil] at h2
        lia
      intro σ₇ k₇ p₇ e₇ l₇
      repeat wtm_at "step"
      · simp; lia
      intro σ₈ q₈ b₈ e₈ a₈
      refine ⟨rfl, ?_⟩
      repeat wtm_at "step"
      have hk7 : k₁ < k₇ := by
        have h1 := p₃.length_le
        have h2 := p₄.length_le
        have h3 := p₅.length_le
        have h4 := p₆.length_le
        lia
      refine ⟨b₈ k (by lia) ▸ (by wtm_at "get"), a₈ _ (by wtm_at "pre") (by lia), by wtm_at "look", ks ++ [k₇], ?_, ?_, ?_⟩
      · rw [e₈]; simp
      · rw [List.take_add_one, hc]
        show LIs σ₈ (ks ++ [k₇]) (wordsOf (List.take i xs ++ [c]))
        rw [wordsOf_snoc, hws]
        refine LIs.snoc (hls.mono fun q hq ns hl => ?_) ?_
        · have := hgt q hq
          exact (b₈ q (by lia)).trans (pget (p₃.trans (p₄.trans (p₅.trans (p₆.trans p₇)))) hl)
        · unfold LI
          rw [b₈ k₇ (by lia), e₇]
          unfold wordOf
          have hu : ∀ (l : List Int) (j : Int), 0 ≤ j → upto (l.map MV.int) j = (l.take j.toNat).map MV.int := fun l j hj => by
            unfold upto; rw [if_pos hj, List.map_take]
          have hj0 := Int.emod_nonneg (c / 5) (show ((elderOf ws c).length + 1 : Int) ≠ 0 by lia)
          rw [hu _ _ hj0, List.map_append, fd _ _ (by lia), fd _ _ (by lia), fm _ _ (by lia), fm _ _ (by lia), fm _ _ (by lia)]
          rw [show [MV.int (c / 30 / 3 % 6), MV.int (c / 30 / 18 % 6)] = [c / 30 / 3 % 6, c / 30 / 18 % 6].map MV.int from rfl, hu _ _ (by lia)]
      · intro q hq
        rcases List.mem_append.mp hq with hq | hq
        · exact hgt q hq
        · rw [List.mem_singleton.mp hq]; exact hk7
  · rintro loc σ₂ hok ⟨p₂, hw, ks, hks, hls, hgt⟩
    repeat wtm_at "step"
    rw [List.length_map, List.take_length] at hls
    exact ⟨_, rfl, hP _ _ _ p₂ hks hls⟩
  · exact ⟨p₁, by wtm_at "look", [], e₁, by rw [List.take_zero]; exact .nil, by simp⟩
  · wtm_at "get"

noncomputable def lcp {α : Type} [DecidableEq α] : List α → List α → Nat
  | a :: l, b :: m => if a = b then lcp l m + 1 else 0
  | _, _ => 0
theorem lcp_step {α : Type} [DecidableEq α] : ∀ {l m : List α} {k : Nat}, k ≤ lcp l m → (k < lcp l m ↔ k < l.length ∧ k < m.length ∧ l[k]? = m[k]?)
  | [], m, k, h => by simp [lcp]
  | a :: l, [], k, h => by simp [lcp]
  | a :: l, b :: m, 0, h => by
    unfold lcp
    by_cases e : a = b <;> simp [e]
  | a :: l, b :: m, k + 1, h => by
    unfold lcp at h ⊢
    by_cases e : a = b
    · rw [if_pos e] at h ⊢
      have := lcp_step (l := l) (m := m) (k := k) (by lia)
      simp only [List.length_cons, List.getElem?_cons_succ]
      constructor
      · intro h1
        obtain ⟨h2, h3, h4⟩ := this.mp (by lia)
        exact ⟨by lia, by lia, h4⟩
      · rintro ⟨h2, h3, h4⟩
        have := this.mpr ⟨by lia, by lia, h4⟩
        lia
    · rw [if_neg e] at h; lia
theorem lcp_le {α : Type} [DecidableEq α] : ∀ (l m : List α), lcp l m ≤ l.length ∧ lcp l m ≤ m.length
  | [], m => by simp [lcp]
  | a :: l, [] => by simp [lcp]
  | a :: l, b :: m => by
    have := lcp_le l m
    unfold lcp
    split <;> simp <;> lia

theorem shared_c {G : Gl} {n : Nat} {σ : List MO} {P : MV → List MO → Prop} (hK : G.K = hd.heap_39 G.w.params) {k₀ k₁ : Nat} {xs ys : List Int} (h₀ : LI σ k₀ xs) (h₁ : LI σ k₁ ys) (hlx : xs.length ≤ 1000) (hly : ys.length ≤ 1000)
   (hP : ∀ σ', σ <+: σ' → P (.int (lcp xs ys : Nat)) σ') : OCall G (n + 1) (.top (.ref 116)) [.obj k₀, .obj k₁] σ P := by
  unfold LI at h₀ h₁
  refine' OCall.def0 (loc := [(Str.ofString "other", (.obj k₁)), (Str.ofString "one", (.obj k₀))]) [Str.ofString "one", Str.ofString "other"] ?ho ?hcd ?hb ?hkx ?hnc ?hco ?hgen ?hkk ?hloc ?hbody
  case ho => rw [hK]; k_is
  case hcd => rw [hK]; k_is
  case hb => intro us hus; obtain ⟨_, _, rfl⟩ := len2 hus; rfl
  case hkx => decide
  case hnc => decide
  case hco => rfl
  case hgen => rfl
  case hkk => rfl
  case hloc => rfl
  intro cx hsc hcc
  wtm_at "step"
  wtm_at "step"
  wtm_at "step"
  wtm_at "step"
  wtm_at "step"
  wtm_at "step"
  refine WS.while_ (fun m loc σ' => σ <+: σ' ∧ loc.lookup (Str.ofString "one") = some (.obj k₀) ∧ loc.lookup (Str.ofString "other") = some (.obj k₁) ∧ ∃ k : Nat, loc.lookup (Str.ofString "k") = some (.int (k : Int)) ∧ k ≤ lcp xs ys ∧ m = lcp xs ys - k) ?_ (lcp xs ys) ?_
  · rintro m loc σ₁ ⟨p₁, ho, ht, k, hk, hle, rfl⟩
    have hst := lcp_step hle
    have hb := lcp_le xs ys
    repeat wtm_at "step"
    rw [List.length_map, List.length_map]
    have hmin : (if (ys.length : Int) < xs.length then (ys.length : Int) else xs.length) = (min xs.length ys.length : Nat) := by
      split <;> lia
    rw [hmin]
    have fin : ∀ loc', loc'.lookup (Str.ofString "k") = some (.int (k : Int)) → k = lcp xs ys → Then G n cx [Stmt.Return (some (Expr.Name (Str.ofString "k") { line := 113, col := 11, endLine := 113, endCol := 12 })) { line := 113, col := 4, endLine := 113, endCol := 12 }] (fun f _ σ' => ∃ v, f = MF.ret v ∧ P v σ') .next loc' σ₁ := fun loc' hl he => by
      repeat wtm_at "step"
      exact ⟨_, rfl, by rw [he]; exact hP _ p₁⟩
    refine ⟨fun hlt => ?_, fun hge => ⟨(by intro h; cases h), fun _ => ?_⟩⟩
    · have hlt : k < min xs.length ys.length := by simpa using hlt
      have h1 : xs[k]? = some xs[k] := List.getElem?_eq_getElem (by lia)
      have h2 : ys[k]? = some ys[k] := List.getElem?_eq_getElem (by lia)
      generalize hx : xs[k] = x at h1
      generalize hy : ys[k] = y at h2
      repeat wtm_at "step"
      refine OS.list (xs := xs.map .int) (v := .int x) (by wtm_at "get") (by lia) (by simp; lia) (by simp; lia) (by unfold ixOf; rw [if_pos (by lia)]; simp [h1]) ?_ (by intro _ _; exact ⟨_, rfl⟩)
      repeat wtm_at "step"
      refine OS.list (xs := ys.map .int) (v := .int y) (by wtm_at "get") (by lia) (by simp; lia) (by simp; lia) (by unfold ixOf; rw [if_pos (by lia)]; simp [h2]) ?_ (by intro _ _; exact ⟨_, rfl⟩)
      repeat wtm_at "step"
      refine ⟨fun he => ?_, fun hne => ?_⟩
      · have he : x = y := by simpa using he
        have hl : k < lcp xs ys := hst.mpr ⟨by lia, by lia, by rw [h1, h2, he]⟩
        repeat wtm_at "step"
        exact ⟨lcp xs ys - (k + 1), by lia, by wtm_at "pre", by wtm_at "look", by wtm_at "look", k + 1, by wtm_at "look", hl, rfl⟩
      · have hne : x ≠ y := by simpa using hne
        refine fin _ hk ?_
        rcases Nat.lt_or_ge k (lcp xs ys) with h | h
        · obtain ⟨_, _, e⟩ := hst.mp h
          rw [h1, h2] at e
          exact absurd (Option.some.inj e) hne
        · lia
    · have hge : min xs.length ys.length ≤ k := by simpa using hge
      exact fin _ hk (by lia)
  · exact ⟨by wtm_at "pre", by wtm_at "look", by wtm_at "look", 0, by wtm_at "look", Nat.zero_le _, by lia⟩

noncomputable def f0 : UInt64 := 0
noncomputable def f1 : UInt64 := 4607182418800017408
noncomputable def f2 : UInt64 := 4611686018427387904
noncomputable def f4 : UInt64 := 4616189618054758400
noncomputable def f6 : UInt64 := 4618441417868443648
noncomputable def eqF (x y : UInt64) : Bool := Float64.cmp x y == some Ordering.eq
noncomputable def hueOf (r g b m d : UInt64) : UInt64 :=
  let rc := Float64.div (Float64.sub m r) d
  let gc := Float64.div (Float64.sub m g) d
  let bc := Float64.div (Float64.sub m b) d
  if eqF r m then Float64.sub bc gc else if eqF g m then Float64.sub (Float64.add f2 rc) bc else Float64.sub (Float64.add f4 gc) rc
noncomputable def hsv (r g b : UInt64) : UInt64 × UInt64 × UInt64 :=
  let m := max3 r g b
  let l := min3 r g b
  if eqF l m then (f0, f0, m) else
    let d := Float64.sub m l
    ((Float64.divmod (Float64.div (hueOf r g b m d) f6) f1).snd, Float64.div d m, m)

theorem hsv_t {r g b : UInt64} (h : eqF (min3 r g b) (max3 r g b) = true) : hsv r g b = (f0, f0, max3 r g b) := by
  unfold hsv; simp only [h, if_true]
theorem hsv_f {r g b : UInt64} (h : eqF (min3 r g b) (max3 r g b) = false) : hsv r g b = ((Float64.divmod (Float64.div (hueOf r g b (max3 r g b) (Float64.sub (max3 r g b) (min3 r g b))) f6) f1).snd,
    Float64.div (Float64.sub (max3 r g b) (min3 r g b)) (max3 r g b), max3 r g b) := by
  unfold hsv; simp only [h, Bool.false_eq_true, if_false]

theorem hsv_c {G : Gl} {n : Nat} {σ : List MO} {P : MV → List MO → Prop} (hK : G.K = hd.heap_39 G.w.params) {r g b : UInt64} (hz : eqF (min3 r g b) (max3 r g b) = false → Float64.isZero (max3 r g b) = false ∧ Float64.isZero (Float64.sub (max3 r g b) (min3 r g b)) = false)
   (hP : ∀ σ' j, σ <+: σ' → σ'[j]? = some (.tup [.flt (hsv r g b).1, .flt (hsv r g b).2.1, .flt (hsv r g b).2.2]) → P (.obj j) σ') : OCall G (n + 1) (.top (.ref 38)) [.flt r, .flt g, .flt b] σ P := by
  refine' OCall.def0 (loc := [(Str.ofString "b", (.flt b)), (Str.ofString "g", (.flt g)), (Str.ofString "r", (.flt r))]) [Str.ofString "r", Str.ofString "g", Str.ofString "b"] ?ho ?hcd ?hb ?hkx ?hnc ?hco ?hgen ?hkk ?hloc ?hbody
  case ho => rw [hK]; k_is
  case hcd => rw [hK]; k_is
  case hb => intro us hus; obtain ⟨_, _, _, rfl⟩ := len3 hus; rfl
  case hkx => decide
  case hnc => decide
  case hco => rfl
  case hgen => rfl
  case hkk => rfl
  case hloc => rfl
  intro cx hsc hcc
  repeat wtm_at "step"
  refine ⟨fun he => ?_, fun hne => ?_⟩
  · have he : eqF (min3 r g b) (max3 r g b) = true := he
    repeat wtm_at "step"
    intro σ₁ k₁ p₁ e₁ l₁
    repeat wtm_at "step"
    exact ⟨_, rfl, hP _ _ p₁ (by rw [hsv_t he]; exact e₁)⟩
  · have hne : eqF (min3 r g b) (max3 r g b) = false := hne
    rw [hsv_f hne] at hP
    obtain ⟨hz1, hz2⟩ := hz hne
    generalize max3 r g b = m at *
    generalize min3 r g b = l at *
    repeat wtm_at "step"
    refine OB.divF hz1 ?_
    repeat wtm_at "step"
    refine OB.divF hz2 ?_
    repeat wtm_at "step"
    refine OB.divF hz2 ?_
    repeat wtm_at "step"
    refine OB.divF hz2 ?_
    repeat wtm_at "step"
    refine ⟨fun h1 => ?_, fun h1 => ?_⟩
    · have hh : hueOf r g b m (Float64.sub m l) = _ := if_pos h1
      repeat wtm_at "step"
      refine OB.divF (by decide +kernel) ?_
      repeat wtm_at "step"
      refine OB.modF (by decide +kernel) ?_
      repeat wtm_at "step"
      intro σ₁ k₁ p₁ e₁ l₁
      repeat wtm_at "step"
      exact ⟨_, rfl, hP _ _ p₁ (by rw [hh]; exact e₁)⟩
    · have hh : hueOf r g b m (Float64.sub m l) = _ := if_neg (ne_true_of_eq_false h1)
      repeat wtm_at "step"
      refine ⟨fun h2 => ?_, fun h2 => ?_⟩
      · have hh := hh.trans (if_pos h2)
        repeat wtm_at "step"
        refine OB.divF (by decide +kernel) ?_
        repeat wtm_at "step"
        refine OB.modF (by decide +kernel) ?_
        repeat wtm_at "step"
        intro σ₁ k₁ p₁ e₁ l₁
        repeat wtm_at "step"
        exact ⟨_, rfl, hP _ _ p₁ (by rw [hh]; exact e₁)⟩
      · have hh := hh.trans (if_neg (ne_true_of_eq_false h2))
        repeat wtm_at "step"
        refine OB.divF (by decide +kernel) ?_
        repeat wtm_at "step"
        refine OB.modF (by decide +kernel) ?_
        repeat wtm_at "step"
        intro σ₁ k₁ p₁ e₁ l₁
        repeat wtm_at "step"
        exact ⟨_, rfl, hP _ _ p₁ (by rw [hh]; exact e₁)⟩

theorem ellipsis_c {G : Gl} {n : Nat} {σ : List MO} {P : MV → List MO → Prop} (hK : G.K = hd.heap_39 G.w.params) {st got : List Nat} (hne : st ≠ []) (hls : st.length ≤ 10000) (hlg : got.length ≤ 10000)
   (hocc : (Builtin.Str.occurrences (S (st ++ [46, 46, 46])) (S [46, 46, 46]) 0 (S (st ++ [46, 46, 46])).length 1).isEmpty = false)
   (hsp : Txt.split (S (st ++ [46, 46, 46])) (S [46, 46, 46]) = [S st, S []])
   (hP : ∀ σ', σ <+: σ' → P (.bool (st.isPrefixOf got)) σ') : OCall G (n + 1) (.top (.ref 52)) [.str (S (st ++ [46, 46, 46])), .str (S got)] σ P := by
  refine' OCall.def0 (loc := [(Str.ofString "got", (.str (S got))), (Str.ofString "want", (.str (S (st ++ [46, 46, 46]))))]) [Str.ofString "want", Str.ofString "got"] ?ho ?hcd ?hb ?hkx ?hnc ?hco ?hgen ?hkk ?hloc ?hbody
  case ho => rw [hK]; k_is
  case hcd => rw [hK]; k_is
  case hb => intro us hus; obtain ⟨_, _, rfl⟩ := len2 hus; rfl
  case hkx => decide
  case hnc => decide
  case hco => rfl
  case hgen => rfl
  case hkk => rfl
  case hloc => rfl
  intro cx hsc hcc
  repeat wtm_at "step"
  rw [hocc]
  repeat wtm_at "step"
  refine ⟨(by intro h; cases h), fun _ => ?_⟩
  repeat wtm_at "step"
  refine OCall.split' (by rw [S_len]; simp; lia) rfl (by rw [hsp]; simp) ?_
  intro σ₁ k₁ p₁ e₁ l₁
  rw [hsp] at e₁
  repeat wtm_at "step"
  refine ⟨by simp, ?_⟩
  repeat wtm_at "step"
  refine WS.assignSwap (hw := ?hw) ?_
  case hw =>
    intro env ρ L ha
    have hkd : env.blockKind = .function := by
      unfold Env.blockKind
      rw [ha.kind (kind_of hsc rfl)]; rfl
    have h1 : env.kindOf (Str.ofString "startpos") = some (NameKind.local) := ha.kindOf (name_of hsc rfl)
    have h2 : env.kindOf (Str.ofString "endpos") = some (NameKind.local) := ha.kindOf (name_of hsc rfl)
    delta swappedStores
    simp only [List.filterMap_cons, List.filterMap_nil, hkd, h1, h2]
    with_unfolding_all rfl
  repeat wtm_at "step"
  refine OCall.lenS (by lia) ?_
  repeat wtm_at "step"
  intro σ₂ k₂ p₂ e₂ l₂
  refine ⟨_, _, _, rfl, e₂, ?_⟩
  repeat wtm_at "step"
  refine OS.list (xs := [S st, S []].map .str) (v := .str (S st)) (by wtm_at "get") (by simp) (by simp) (by simp) rfl ?_ (by intro _ _; exact ⟨_, rfl⟩)
  repeat wtm_at "step"
  have hemp : (!st.isEmpty) = true := by cases st <;> simp_all
  refine OT.str (by lia) ?_
  rw [hemp]
  refine ⟨fun _ => ?_, (by intro h; cases h)⟩
  repeat wtm_at "step"
  refine OCall.startswith ?_
  repeat wtm_at "step"
  refine ⟨fun hpre => ?_, fun hpre => ?_⟩
  · have hle : st.length ≤ got.length := (List.isPrefixOf_iff_prefix.mp hpre).length_le
    repeat wtm_at "step"
    refine OCall.lenS (by lia) ?_
    repeat wtm_at "step"
    refine O.delL' (xs := [S st, S []].map .str) (by wtm_at "get") (by simp) (by simp) (by simp) ?_
    intro σ₃ q₃ b₃ e₃ a₃
    rw [show (([S st, S []].map MV.str).eraseIdx (ixOf 0 ([S st, S []].map MV.str).length)) = [.str (S [])] from rfl] at e₃
    repeat wtm_at "step"
    refine OS.list (xs := [.str (S [])]) (v := .str (S [])) (by wtm_at "get") (by simp) (by simp) (by simp) rfl ?_ (by intro _ _; exact ⟨_, rfl⟩)
    repeat wtm_at "step"
    refine OT.str (by simp) ?_
    refine ⟨(by intro h; cases h), fun _ => ?_⟩
    repeat wtm_at "step"
    refine ⟨fun h => ?_, fun _ => ?_⟩
    · simp at h; lia
    repeat wtm_at "step"
    refine WS.for_ ?_
    repeat wtm_at "step"
    refine ⟨_, _, Src.list (by wtm_at "get"), by wtm_at "get", ?_⟩
    unfold forChain
    repeat wtm_at "step"
    rw [show ((got.length : Int)) = ((got.length : Nat) : Int) from rfl]
    refine OCall.find4 (x := S got) (y := S []) (i := st.length) (j := got.length) (by rw [S_len]; exact Nat.le_refl _) ?_
    rw [occ_empty _ hle]
    repeat wtm_at "step"
    refine ⟨fun h => ?_, fun _ => ?_⟩
    · simp at h; lia
    repeat wtm_at "step"
    refine OCall.lenS (by simp) ?_
    repeat wtm_at "step"
    refine ⟨by wtm_at "get", ?_⟩
    unfold forChain
    repeat wtm_at "step"
    exact ⟨_, rfl, by rw [← hpre]; exact hP _ (a₃ _ (by wtm_at "pre") (by have := p₁.length_le; lia))⟩
  · repeat wtm_at "step"
    exact ⟨_, rfl, by rw [← hpre]; exact hP _ (by wtm_at "pre")⟩

noncomputable def RowOk (r : List Nat) : Prop := ∃ c, c ≠ 46 ∧ c ≠ 13 ∧ (r = [c] ∨ r = [46, 46, c])
theorem RowOk.no13 {r : List Nat} (h : RowOk r) : 13 ∉ r := by
  obtain ⟨c, h1, h2, rfl | rfl⟩ := h <;> simp <;> lia
theorem RowOk.len {r : List Nat} (h : RowOk r) : r.length ≤ 3 ∧ 1 ≤ r.length := by
  obtain ⟨c, h1, h2, rfl | rfl⟩ := h <;> simp
theorem RowOk.noDots {r : List Nat} (h : RowOk r) : NoDots (r ++ [13, 10]) := by
  obtain ⟨c, h1, h2, rfl | rfl⟩ := h
  · exact .row0 h1
  · exact .row2 h1
theorem txt_append (rs qs : List (List Nat)) : txt (rs ++ qs) = txt rs ++ txt qs := by simp [txt]
theorem txt_noDots : ∀ rs : List (List Nat), (∀ r ∈ rs, RowOk r) → NoDots (txt rs)
  | [], _ => .nil
  | r :: rs, h => by
    have := NoDots.append (h r (by simp)).noDots (txt_noDots rs fun q hq => h q (by simp [hq]))
    rw [txt_cons]
    simpa using this
theorem txt_len : ∀ rs : List (List Nat), (∀ r ∈ rs, RowOk r) → (txt rs).length ≤ 5 * rs.length
  | [], _ => by simp [txt]
  | r :: rs, h => by
    have h1 := txt_len rs fun q hq => h q (by simp [hq])
    have h2 := (h r (by simp)).len
    rw [txt_cons]
    simp; lia
noncomputable def fitN (rs : List (List Nat)) (got : List Nat) : Nat → Nat
  | 0 => 0
  | i + 1 => fitN rs got i + if (txt (rs.take (i + 1))).isPrefixOf got then 1 else 0

theorem asked_c {G : Gl} {n : Nat} {σ : List MO} {P : MV → List MO → Prop} (hK : G.K = hd.heap_39 G.w.params) {rs : List (List Nat)} {got : List Nat} (hrs : ∀ r ∈ rs, RowOk r) (hlr : rs.length ≤ 1000) (hlg : got.length ≤ 10000)
   (hP : ∀ σ', σ <+: σ' → P (.int (fitN rs got rs.length : Nat)) σ') : OCall G (n + 1 + 1) (.top (.ref 109)) [.str (S (txt rs)), .str (S got)] σ P := by
  have htl := txt_len rs hrs
  refine' OCall.def0 (loc := [(Str.ofString "other", (.str (S got))), (Str.ofString "one", (.str (S (txt rs))))]) [Str.ofString "one", Str.ofString "other"] ?ho ?hcd ?hb ?hkx ?hnc ?hco ?hgen ?hkk ?hloc ?hbody
  case ho => rw [hK]; k_is
  case hcd => rw [hK]; k_is
  case hb => intro us hus; obtain ⟨_, _, rfl⟩ := len2 hus; rfl
  case hkx => decide
  case hnc => decide
  case hco => rfl
  case hgen => rfl
  case hkk => rfl
  case hloc => rfl
  intro cx hsc hcc
  repeat wtm_at "step"
  refine OCall.split' (by rw [S_len]; lia) rfl (by rw [split_rows rs fun r hr => (hrs r hr).no13]; simp; lia) ?_
  intro σ₁ k₁ p₁ e₁ l₁
  rw [split_rows rs fun r hr => (hrs r hr).no13] at e₁
  repeat wtm_at "step"
  refine ⟨_, _, _, rfl, e₁, by simp; lia, rfl, by lia, ?_⟩
  intro σ₂ k₂ p₂ e₂ l₂
  rw [show upto ((rs.map S ++ [S []]).map MV.str) (-1) = rs.map fun r => MV.str (S r) by
    unfold upto
    rw [if_neg (by lia), List.map_append, List.map_map]
    simp [Function.comp_def]] at e₂
  repeat wtm_at "step"
  refine WS.for_ ?_
  repeat wtm_at "step"
  refine ⟨_, _, Src.list (by wtm_at "get"), by wtm_at "get", ?_⟩
  refine forChain_inv (fun i loc σ' => σ <+: σ' ∧ loc.lookup (Str.ofString "other") = some (.str (S got)) ∧ loc.lookup (Str.ofString "start") = some (.str (S (txt (rs.take i)))) ∧ loc.lookup (Str.ofString "fitting") = some (.int (fitN rs got i : Nat))) ?_ ?_ ?_ ?_
  · rintro i x loc σ₃ hx hok ⟨p₃, ho, hst, hf⟩
    rw [List.getElem?_map, Option.map_eq_some_iff] at hx
    obtain ⟨r, hr, rfl⟩ := hx
    have hro := hrs r (List.mem_of_getElem? hr)
    have hi : i < rs.length := (List.getElem?_eq_some_iff.mp hr).1
    have htake : rs.take (i + 1) = rs.take i ++ [r] := by rw [List.take_add_one, hr]; rfl
    have htx : txt (rs.take i) ++ r ++ [13, 10] = txt (rs.take (i + 1)) := by
      rw [htake, txt_append]; simp [txt]
    have hl1 := txt_len (rs.take i) fun q hq => hrs q (List.mem_of_mem_take hq)
    have hl2 := txt_len (rs.take (i + 1)) fun q hq => hrs q (List.mem_of_mem_take hq)
    rw [List.length_take] at hl1 hl2
    have hlr := hro.len
    repeat wtm_at "step"
    refine OB.addS (by lia) ?_
    repeat wtm_at "step"
    refine OB.addS (by simp; lia) ?_
    rw [htx]
    repeat wtm_at "step"
    refine OB.addS (by simp; lia) ?_
    repeat wtm_at "step"
    obtain ⟨hs1, hs2⟩ := split_dots (txt_noDots (rs.take (i + 1)) fun q hq => hrs q (List.mem_of_mem_take hq))
    refine ellipsis_c hK (by rw [← htx]; simp) (by lia) hlg hs2 hs1 ?_
    intro σ₄ p₄
    repeat wtm_at "step"
    have hfs : fitN rs got (i + 1) = fitN rs got i + if (txt (rs.take (i + 1))).isPrefixOf got then 1 else 0 := rfl
    refine ⟨fun ht => ?_, fun ht => ?_⟩
    · rw [ht] at hfs
      repeat wtm_at "step"
      refine ⟨by wtm_at "get", by wtm_at "pre", by wtm_at "look", by wtm_at "look", ?_⟩
      rw [look_eq, hfs]; simp
    · rw [ht] at hfs
      repeat wtm_at "step"
      refine ⟨by wtm_at "get", by wtm_at "pre", by wtm_at "look", by wtm_at "look", ?_⟩
      rw [hfs]
      exact look_ne (by decide) (look_ne (by decide) hf)
  · rintro loc σ₃ hok ⟨p₃, ho, hst, hf⟩
    repeat wtm_at "step"
    rw [List.length_map]
    exact ⟨_, rfl, hP _ p₃⟩
  · exact ⟨by wtm_at "pre", by wtm_at "look", by wtm_at "look", by wtm_at "look"⟩
  · wtm_at "get"

noncomputable def alike (R : List (List Int)) (i k : Nat) : List Nat := (List.range 5).filter fun j => decide ((R.getD j []).take k = (R.getD i []).take k)
noncomputable def maskOf (l : List Nat) : Nat := (l.map (2 ^ ·)).sum
noncomputable def beginTurn (R : List (List Int)) (i : Nat) (c : List Int) (k : Nat) : List Int := if (alike R i k).head? = some i then c.set (maskOf (alike R i k)) (c.getD (maskOf (alike R i k)) 0 + 1) else c
noncomputable def beginRow (R : List (List Int)) (c : List Int) (i : Nat) : List Int := (List.range (R.getD i []).length).foldl (fun c k => beginTurn R i c (k + 1)) c
noncomputable def countsOf (R : List (List Int)) (i : Nat) : List Int := (List.range i).foldl (beginRow R) (List.replicate 32 0)
noncomputable def twos : List Nat := [3, 5, 9, 17, 6, 10, 18, 12, 20, 24]
noncomputable def beginsOf (R : List (List Int)) : List Int := twos.map fun two => (countsOf R 5).getD two 0 + (countsOf R 5).getD (31 - two) 0

theorem alike_mem (R : List (List Int)) {i : Nat} (k : Nat) (hi : i < 5) : i ∈ alike R i k := by
  unfold alike
  rw [List.mem_filter]
  exact ⟨List.mem_range.mpr hi, by simp⟩
theorem alike_cons (R : List (List Int)) {i : Nat} (k : Nat) (hi : i < 5) : ∃ h r, alike R i k = h :: r := by
  cases e : alike R i k with
  | nil => have := alike_mem R k hi; rw [e] at this; cases this
  | cons h r => exact ⟨h, r, rfl⟩
theorem alike_len (R : List (List Int)) (i k : Nat) : (alike R i k).length ≤ 5 := by
  unfold alike
  have := List.length_filter_le (fun j => decide ((R.getD j []).take k = (R.getD i []).take k)) (List.range 5)
  simpa using this
theorem mask_lt (R : List (List Int)) (i k : Nat) : maskOf (alike R i k) < 32 := by
  unfold maskOf alike
  generalize (fun j => decide ((R.getD j []).take k = (R.getD i []).take k)) = p
  simp only [List.range, List.range.loop, List.filter]
  cases p 0 <;> cases p 1 <;> cases p 2 <;> cases p 3 <;> cases p 4 <;> decide

theorem range_getD (l : List Nat) (f : Nat → MV) : ((List.range l.length).filter fun _ => true).map (fun q => f (l.getD q 0)) = l.map f := by
  rw [List.filter_eq_self.mpr (by simp)]
  refine List.ext_getElem (by simp) fun q h1 h2 => ?_
  simp at h1 h2
  simp [h2]
theorem sum_cast (l : List Nat) : (l.map fun j => ((2 ^ j : Nat) : Int)).sum = (maskOf l : Int) := by
  unfold maskOf
  induction l with
  | nil => rfl
  | cons a l ih => rw [List.map_cons, List.sum_cons, List.map_cons, List.sum_cons, ih]; push_cast; rfl
theorem beginTurn_len (R : List (List Int)) (i : Nat) (c : List Int) (k : Nat) : (beginTurn R i c k).length = c.length := by
  unfold beginTurn; split <;> simp
theorem beginRow_len (R : List (List Int)) (c : List Int) (i j : Nat) : ((List.range j).foldl (fun c k => beginTurn R i c (k + 1)) c).length = c.length := by
  induction j with
  | zero => rfl
  | succ j ih => rw [List.range_succ, List.foldl_append]; simp [beginTurn_len, ih]
theorem countsOf_len (R : List (List Int)) (i : Nat) : (countsOf R i).length = 32 := by
  unfold countsOf
  induction i with
  | zero => simp
  | succ i ih => rw [List.range_succ, List.foldl_append]; rw [List.foldl_cons, List.foldl_nil]; exact (beginRow_len R _ i _).trans ih

theorem begins_c {G : Gl} {n : Nat} {σ : List MO} {P : MV → List MO → Prop} (hK : G.K = hd.heap_39 G.w.params) (hn : 5 ≤ n) {k₀ : Nat} {ks : List Nat} {R : List (List Int)} (h₀ : σ[k₀]? = some (.list (ks.map .obj))) (hR : LIs σ ks R) (h5 : R.length = 5) (hl : ∀ r ∈ R, r.length ≤ 1000)
   (hP : ∀ σ' j, σ <+: σ' → LI σ' j (beginsOf R) → P (.obj j) σ') : OCall G (n + 1) (.top (.ref 126)) [.obj k₀] σ P := by
  refine' OCall.defC (loc := []) (cn := [Str.ofString "k", Str.ofString "i", Str.ofString "counts", Str.ofString "rows"]) (cs := [.cell none, .cell none, .cell none, .cell (some (.obj k₀))]) [Str.ofString "rows"] ?ho ?hcd ?hb ?hkx ?hnc ?hnd ?hco ?hgen ?hkk ?hloc ?hcs ?hbody
  case ho => rw [hK]; k_is
  case hcd => rw [hK]; k_is
  case hb => intro us hus; obtain ⟨_, rfl⟩ := len1 hus; rfl
  case hkx => decide
  case hnc => rfl
  case hnd => decide
  case hco => rfl
  case hgen => rfl
  case hkk => rfl
  case hloc => rfl
  case hcs => rfl
  intro cx hsc hcc
  replace hcc : cx.cells = [(Str.ofString "k", σ.length), (Str.ofString "i", σ.length + 1), (Str.ofString "counts", σ.length + 1 + 1), (Str.ofString "rows", σ.length + 1 + 1 + 1)] := hcc
  generalize hc : σ.length = c at *
  obtain ⟨σ₀, hσ₀, ck, ci, cc, cr⟩ : ∃ σ₀ : List MO, σ₀ = σ ++ [MO.cell none, MO.cell none, MO.cell none, MO.cell (some (MV.obj k₀))] ∧ σ₀[c]? = some (.cell none) ∧ σ₀[c + 1]? = some (.cell none) ∧ σ₀[c + 1 + 1]? = some (.cell none) ∧
      σ₀[c + 1 + 1 + 1]? = some (.cell (some (.obj k₀))) := by
    refine ⟨_, rfl, ?_, ?_, ?_, ?_⟩
    · rw [List.getElem?_append_right (by lia), show c - σ.length = 0 by lia]; rfl
    · rw [List.getElem?_append_right (by lia), show c + 1 - σ.length = 1 by lia]; rfl
    · rw [List.getElem?_append_right (by lia), show c + 1 + 1 - σ.length = 2 by lia]; rfl
    · rw [List.getElem?_append_right (by lia), show c + 1 + 1 + 1 - σ.length = 3 by lia]; rfl
  have hlen₀ : σ₀.length = c + 4 := by rw [hσ₀]; simp [hc]
  have p₀ : σ <+: σ₀ := by rw [hσ₀]; exact List.prefix_append _ _
  rw [← hσ₀]
  clear hσ₀
  repeat wtm_at "step"
  intro σ₁ k₁ p₁ e₁ l₁
  repeat wtm_at "step"
  refine OB.mulList' (by wtm_at "get") (by decide) (by decide) (by decide) ?_
  intro σ₂ k₂ p₂ e₂ l₂
  repeat wtm_at "step"
  intro σ₃ q₃ b₃ e₃ a₃
  repeat wtm_at "step"
  refine WS.for_ ?_
  repeat wtm_at "step"
  intro σ₄ k₄ p₄ e₄ l₄
  have hl1 := p₁.length_le
  have hl2 := p₂.length_le
  have hl4 := p₄.length_le
  refine ⟨_, _, Src.rng e₄ (by decide) (by decide) (by decide) (by decide), trivial, ?_⟩
  refine forChain_inv (fun i loc σ' => σ <+: σ' ∧ σ'[c + 1 + 1 + 1]? = some (.cell (some (.obj k₀))) ∧ σ'[c + 1 + 1]? = some (.cell (some (.obj k₂))) ∧ LI σ' k₂ (countsOf R i) ∧ (∃ v, σ'[c]? = some (.cell v)) ∧ (∃ v, σ'[c + 1]? = some (.cell v))) ?_ ?_ ?_ ?_
  · rintro i x loc σ₅ hx hok ⟨p₅, hr₅, hc₅, hl₅, ⟨vk, hk₅⟩, ⟨vi, hi₅⟩⟩
    obtain ⟨hi5, rfl⟩ := rngL_get hx
    have hi5 : i < 5 := by lia
    repeat wtm_at "step"
    intro σ₆ q₆ b₆ e₆ a₆
    repeat wtm_at "step"
    refine WS.for_ ?_
    repeat wtm_at "step"
    have hRi : R[i]? = some (R.getD i []) := by rw [List.getD_eq_getElem?_getD, List.getElem?_eq_getElem (by lia)]; rfl
    obtain ⟨ki, hki, hli⟩ := hR.get' hRi
    have hRl : (R.getD i []).length ≤ 1000 := hl _ (List.mem_of_getElem? hRi)
    have pσ₆ : σ <+: σ₆ := a₆ _ p₅ (by lia)
    have h₀₆ := pget pσ₆ h₀
    have hli₆ : σ₆[ki]? = _ := pget pσ₆ hli
    have hkl := hR.length
    generalize hRe : R.getD i [] = Ri at hRi hli hRl hli₆
    refine OS.list (xs := ks.map .obj) (v := .obj ki) h₀₆ (by lia) (by simp; lia) (by simp; lia) (by unfold ixOf; rw [if_pos (by lia), show (0 + (i : Int)).toNat = i by lia]; simp [hki]) ?_ (by intro _ _; exact ⟨_, rfl⟩)
    repeat wtm_at "step"
    intro σ₇ k₇ p₇ e₇ l₇
    refine ⟨_, _, Src.rng e₇ (by decide) (by decide) (by simp; lia) (by simp; lia), trivial, ?_⟩
    refine forChain_inv (fun j loc σ' => σ <+: σ' ∧ σ'[c + 1 + 1 + 1]? = some (.cell (some (.obj k₀))) ∧ σ'[c + 1 + 1]? = some (.cell (some (.obj k₂))) ∧ LI σ' k₂ ((List.range j).foldl (fun c k => beginTurn R i c (k + 1)) (countsOf R i)) ∧ (∃ v, σ'[c]? = some (.cell v)) ∧ σ'[c + 1]? = some (.cell (some (.int i)))) ?_ ?_ ?_ ?_
    · rintro j x loc₂ σ₈ hx₂ hok₂ ⟨p₈, hr₈, hc₈, hl₈, ⟨vk, hk₈⟩, hi₈⟩
      obtain ⟨hj, rfl⟩ := rngL_get hx₂
      repeat wtm_at "step"
      intro σ₉ q₉ b₉ e₉ a₉
      repeat wtm_at "step"
      refine WS_assignComp (tail := emitT _) (fun _ _ _ => rfl) ⟨by decide, by rw [hcc]; rfl, rfl, by decide⟩ ?_ (by intro _ _; rfl) (by rw [hsc]; decide) (kind_of hsc rfl)
      repeat wtm_at "step"
      intro σ₁₀ k₁₀ p₁₀ e₁₀ l₁₀
      have hl10 := p₁₀.length_le
      refine CompFrom.one (Src.rng e₁₀ (by decide) (by decide) (by decide) (by decide)) (fun _ _ => trivial) (by rw [rngL_length]; decide) (fun q => decide ((R.getD q []).take (j + 1) = Ri.take (j + 1))) (fun q => .int q) ?_ ?_
      · intro cx' q x loc₃ σ₁₁ hcx hx₃ p₁₁
        obtain ⟨hq, rfl⟩ := rngL_get hx₃
        have hsc' : cx'.scope = { kind := .function, names := [(Str.ofString ".0", .local), (Str.ofString "j", .local), (Str.ofString "i", .cell), (Str.ofString "k", .cell), (Str.ofString "rows", .cell)], isGenerator := false, isCoroutine := false } := by
          rw [hcx]
          show relabelM _ cx = _
          unfold relabelM
          rw [hsc]
          rfl
        have hcc' : cx'.cells = [(Str.ofString "rows", c + 1 + 1 + 1), (Str.ofString "k", c), (Str.ofString "i", c + 1)] := by
          rw [hcx]
          show idx (cellNames _) _ ++ freeIdx cx.cells _ [] = _
          rw [hcc]
          rfl
        clear hsc hcc hcx
        have hq5 : q < 5 := by lia
        have hRq : R[q]? = some (R.getD q []) := by rw [List.getD_eq_getElem?_getD, List.getElem?_eq_getElem (by lia)]; rfl
        obtain ⟨kq, hkq, hlq⟩ := hR.get' hRq
        have hRql : (R.getD q []).length ≤ 1000 := hl _ (List.mem_of_getElem? hRq)
        generalize hRqe : R.getD q [] = Rq at hRq hlq hRql ⊢
        have pσ : σ <+: σ₁₁ := (a₉ _ p₈ (by lia)).trans (p₁₀.trans p₁₁)
        have p9 : σ₉ <+: σ₁₁ := p₁₀.trans p₁₁
        have f1 : σ₁₁[c + 1 + 1 + 1]? = some (.cell (some (.obj k₀))) := pget p9 ((b₉ _ (by lia)).trans hr₈)
        have f2 : σ₁₁[c]? = some (.cell (some (.int (1 + (j : Int))))) := pget p9 e₉
        have f3 : σ₁₁[c + 1]? = some (.cell (some (.int (i : Int)))) := pget p9 ((b₉ _ (by lia)).trans hi₈)
        have g0 := pget pσ h₀
        have gi : σ₁₁[ki]? = some (.list (Ri.map .int)) := pget pσ hli
        have gq : σ₁₁[kq]? = some (.list (Rq.map .int)) := pget pσ hlq
        repeat wtm_at "step"
        show WB G n cx' _ _ _ _
        repeat wtm_at "step"
        refine OS.list (xs := ks.map .obj) (v := .obj kq) g0 (by lia) (by simp; lia) (by simp; lia) (by unfold ixOf; rw [if_pos (by lia), show (0 + (q : Int)).toNat = q by lia]; simp [hkq]) ?_ (by intro _ _; exact ⟨_, rfl⟩)
        repeat wtm_at "step"
        refine ⟨kq, _, _, rfl, gq, by simp; lia, rfl, by lia, ?_⟩
        intro σ₁₂ k₁₂ p₁₂ e₁₂ l₁₂
        repeat wtm_at "step"
        refine OS.list (xs := ks.map .obj) (v := .obj ki) (by wtm_at "get") (by lia) (by simp; lia) (by simp; lia) (by unfold ixOf; rw [if_pos (by lia)]; simp [hki]) ?_ (by intro _ _; exact ⟨_, rfl⟩)
        repeat wtm_at "step"
        refine ⟨ki, _, _, rfl, pget p₁₂ gi, by simp; lia, rfl, by lia, ?_⟩
        intro σ₁₃ k₁₃ p₁₃ e₁₃ l₁₃
        have hu : ∀ l : List Int, upto (l.map MV.int) (1 + (j : Int)) = (l.take (j + 1)).map MV.int := fun l => by
          unfold upto; rw [if_pos (by lia), show (1 + (j : Int)).toNat = j + 1 by lia, List.map_take]
        rw [hu] at e₁₂ e₁₃
        refine OC.eqL (xs := Rq.take (j + 1)) (ys := Ri.take (j + 1)) (by wtm_at "get") (by wtm_at "get") hn ?_
        repeat wtm_at "step"
        refine ⟨rfl, by wtm_at "pre", fun _ => ?_⟩
        repeat wtm_at "step"
        exact ⟨by simp, by wtm_at "pre"⟩
      · intro σ₁₄ p₁₄ e₁₄
        have hal : ((List.range (rngL 0 5).length).filter fun q => decide ((R.getD q []).take (j + 1) = Ri.take (j + 1))).map (fun q : Nat => MV.int q) = ((alike R i (j + 1)).map fun q : Nat => (q : Int)).map .int := by
          rw [rngL_length, List.map_map]
          unfold alike
          rw [hRe]
          rfl
        rw [hal] at e₁₄
        have pσ : σ <+: σ₁₄ := (a₉ _ p₈ (by lia)).trans (p₁₀.trans p₁₄)
        have p9 : σ₉ <+: σ₁₄ := p₁₀.trans p₁₄
        have f1 : σ₁₄[c + 1 + 1 + 1]? = some (.cell (some (.obj k₀))) := pget p9 ((b₉ _ (by lia)).trans hr₈)
        have f2 : σ₁₄[c]? = some (.cell (some (.int (1 + (j : Int))))) := pget p9 e₉
        have f3 : σ₁₄[c + 1]? = some (.cell (some (.int (i : Int)))) := pget p9 ((b₉ _ (by lia)).trans hi₈)
        have f4 : σ₁₄[c + 1 + 1]? = some (.cell (some (.obj k₂))) := pget p9 ((b₉ _ (by lia)).trans hc₈)
        have f5 : LI σ₁₄ k₂ _ := pget p9 ((b₉ _ (by lia)).trans hl₈)
        obtain ⟨h, r, hal2⟩ := alike_cons R (j + 1) hi5
        have hall := alike_len R i (j + 1)
        have hml := mask_lt R i (j + 1)
        repeat wtm_at "step"
        refine OS.list (xs := ((alike R i (j + 1)).map fun q : Nat => (q : Int)).map .int) (v := .int h) e₁₄ (by simp) (by rw [hal2]; simp) (by simp; lia) (by rw [hal2]; rfl) ?_ (by intro _ _; exact ⟨_, rfl⟩)
        repeat wtm_at "step"
        refine ⟨fun he => ?_, fun hne => ?_⟩
        · repeat wtm_at "step"
          refine WE.comp (tail := emitT _) (fun _ _ _ => rfl) ⟨by decide, by rfl, rfl, by decide⟩ ?_ (by intro _ _; rfl)
          repeat wtm_at "step"
          refine CompFrom.one (Src.list e₁₄) (fun σ' hp => pget hp e₁₄) (by simp; lia) (fun _ => true) (fun q => .int (2 ^ ((alike R i (j + 1)).getD q 0) : Nat)) ?_ ?_
          · intro cx' q x loc₃ σ₁₅ hcx hx₃ p₁₅
            rw [List.getElem?_map, List.getElem?_map, Option.map_map, Option.map_eq_some_iff] at hx₃
            obtain ⟨y, hy, rfl⟩ := hx₃
            have hy5 : y < 5 := by
              have := List.mem_of_getElem? hy
              unfold alike at this
              exact List.mem_range.mp (List.mem_filter.mp this).1
            have hsc' : cx'.scope = { kind := .function, names := [(Str.ofString ".0", .local), (Str.ofString "j", .local)], isGenerator := false, isCoroutine := false } := by
              rw [hcx]
              show relabelM _ cx = _
              unfold relabelM
              rw [hsc]
              rfl
            clear hsc
            repeat wtm_at "step"
            refine ⟨rfl, List.prefix_rfl, fun _ => ?_⟩
            repeat wtm_at "step"
            refine OB.pow (by simp) ?_ ?_
            · have hb : Builtin.Int.intBits 2 = 2 := by decide +kernel
              rw [hb]; simp; lia
            refine ⟨?_, List.prefix_rfl⟩
            rw [List.getD_eq_getElem?_getD, hy]
            simp
          · intro σ₁₅ p₁₅ e₁₅
            rw [show (List.map MV.int (List.map (fun q : Nat => (q : Int)) (alike R i (j + 1)))).length = (alike R i (j + 1)).length by simp, range_getD (alike R i (j + 1)) (fun y => .int (2 ^ y : Nat))] at e₁₅
            have e₁₆ : σ₁₅[σ₁₄.length]? = some (.list (((alike R i (j + 1)).map fun y => ((2 ^ y : Nat) : Int)).map .int)) := by rw [e₁₅, List.map_map]; rfl
            repeat wtm_at "step"
            refine OCall.sum e₁₆ ?_
            rw [sum_cast]
            unfold LI at f5
            have hcl := (beginRow_len R (countsOf R i) i j).trans (countsOf_len R i)
            generalize hcs : (List.range j).foldl (fun c k => beginTurn R i c (k + 1)) (countsOf R i) = cs at f5 hcl
            repeat wtm_at "step"
            have g5 := pget p₁₅ f5
            have hkk : k₂ ≠ c + 1 + 1 := by lia
            refine O.getL (xs := cs.map .int) (v := .int (cs.getD (maskOf (alike R i (j + 1))) 0)) g5 (by lia) (by simp; lia) (by simp; lia) (by simp [List.getD_eq_getElem?_getD]; rw [List.getElem?_eq_getElem (by lia)]; rfl) ?_
            repeat wtm_at "step"
            refine O.setL' g5 (by lia) (by simp; lia) (by simp; lia) ?_
            intro σ₁₆ q₁₆ b₁₆ e₁₆ a₁₆
            repeat wtm_at "step"
            have hhi : h = i := by have := he; simp only [beq_iff_eq] at this; lia
            refine ⟨trivial, a₁₆ _ (pσ.trans p₁₅) (by lia), (b₁₆ _ (by lia)).trans (pget p₁₅ f1), (b₁₆ _ (by lia)).trans (pget p₁₅ f4), ?_, ⟨_, (b₁₆ _ (by lia)).trans (pget p₁₅ f2)⟩, (b₁₆ _ (by lia)).trans (pget p₁₅ f3)⟩
            unfold LI
            rw [e₁₆, List.range_succ, List.foldl_append, List.foldl_cons, List.foldl_nil, hcs]
            unfold beginTurn
            rw [if_pos (by rw [hal2, hhi]; rfl), List.map_set]
            simp
        · repeat wtm_at "step"
          have hhi : h ≠ i := by have := hne; simp only [beq_eq_false_iff_ne, ne_eq] at this; lia
          refine ⟨trivial, pσ, f1, f4, ?_, ⟨_, f2⟩, f3⟩
          rw [List.range_succ, List.foldl_append, List.foldl_cons, List.foldl_nil]
          have hb : ∀ cs, beginTurn R i cs (j + 1) = cs := fun cs => by
            unfold beginTurn
            rw [if_neg (by rw [hal2]; simpa using hhi)]
          rw [hb]
          exact f5
    · rintro loc₂ σ₈ hok₂ ⟨p₈, hr₈, hc₈, hl₈, ⟨vk, hk₈⟩, hi₈⟩
      repeat wtm_at "step"
      refine ⟨trivial, p₈, hr₈, hc₈, ?_, ⟨_, hk₈⟩, ⟨_, hi₈⟩⟩
      rw [show (rngL 1 (((Ri.map MV.int).length : Int) + 1)).length = Ri.length by rw [rngL_length, List.length_map]; lia] at hl₈
      unfold countsOf
      rw [List.range_succ, List.foldl_append, List.foldl_cons, List.foldl_nil]
      show LI σ₈ k₂ (beginRow R (countsOf R i) i)
      unfold beginRow
      rw [hRe]
      exact hl₈
    · have b6 : ∀ j, j ≠ c + 1 → j < σ₅.length → σ₇[j]? = σ₅[j]? := fun j h1 h2 => by
        have h3 : σ₆[j]? = σ₅[j]? := b₆ j h1
        rw [← h3]
        exact pget p₇ (List.getElem?_eq_getElem (by lia)) |>.trans (List.getElem?_eq_getElem (by lia)).symm
      have k2lt := (List.getElem?_eq_some_iff.mp hl₅).1
      have c1lt := (List.getElem?_eq_some_iff.mp hr₅).1
      refine ⟨pσ₆.trans p₇, (b6 _ (by lia) c1lt).trans hr₅, (b6 _ (by lia) (by lia)).trans hc₅, (b6 _ (by lia) k2lt).trans hl₅, ⟨_, (b6 _ (by lia) (by lia)).trans hk₅⟩, ?_⟩
      have := pget p₇ e₆
      rw [show (0 + (i : Int)) = (i : Int) by lia] at this
      exact this
    · trivial
  · rintro loc σ₅ hok ⟨p₅, hr₅, hc₅, hl₅, ⟨vk, hk₅⟩, ⟨vi, hi₅⟩⟩
    repeat wtm_at "step"
    refine WS_assignComp turn2 ⟨by decide, by rfl, rfl, by decide⟩ ?_ (by intro _ _; rfl) (by rw [hsc]; decide) (kind_of hsc rfl)
    repeat wtm_at "step"
    intro σ₆ k₆ p₆ e₆ l₆
    refine CompFrom.two (Src.rng e₆ (by decide) (by decide) (by decide) (by decide)) (fun _ _ => trivial) (fun i => 4 - i) (fun i j => .int (2 ^ i + 2 ^ (i + 1 + j) : Nat)) (by lia) (by rw [rngL_length]; decide) turn3 (by intro _ _; rfl) ?_ ?_
    · intro cx' i x loc₇ σ₇ hcx hx p₇
      obtain ⟨hi, rfl⟩ := rngL_get hx
      have hi5 : i < 5 := by lia
      have hsc' : cx'.scope = { kind := .function, names := [(Str.ofString ".0", .local), (Str.ofString "i", .local), (Str.ofString "j", .local), (Str.ofString "range", .globalImplicit)], isGenerator := false, isCoroutine := false } := by
        rw [hcx]
        show relabelM _ cx = _
        unfold relabelM
        rw [hsc]
        rfl
      clear hsc hcc hcx
      repeat wtm_at "step"
      intro σ₈ k₈ p₈ e₈ l₈
      refine ⟨by wtm_at "pre", _, _, fun l => l.lookup (Str.ofString "i") = some (.int (0 + (i : Int))), Src.rng e₈ (by lia) (by lia) (by decide) (by decide), fun _ => trivial, by rw [rngL_length]; lia, look_eq, ?_⟩
      intro j y loc₉ σ₉ hy p₉ hLP
      obtain ⟨hj, rfl⟩ := rngL_get hy
      repeat wtm_at "step"
      refine ⟨by wtm_at "look", ?_⟩
      repeat wtm_at "step"
      refine OB.pow (by lia) ?_ ?_
      · have hb : Builtin.Int.intBits 2 = 2 := by decide +kernel
        rw [hb]; lia
      repeat wtm_at "step"
      refine OB.pow (by lia) ?_ ?_
      · have hb : Builtin.Int.intBits 2 = 2 := by decide +kernel
        rw [hb]; lia
      repeat wtm_at "step"
      refine ⟨?_, by wtm_at "pre"⟩
      rw [show (0 + (i : Int)).toNat = i by lia, show (0 + (i : Int) + 1 + (j : Int)).toNat = i + 1 + j by lia]
      push_cast
      rfl
    · intro σ₇ p₇ e₇
      have e₈ : σ₇[σ₆.length]? = some (.list ((twos.map fun two : Nat => (two : Int)).map .int)) := by
        rw [e₇, rngL_length]
        rfl
      repeat wtm_at "step"
      have hcS : σ₇[c + 1 + 1]? = some (.cell (some (.obj k₂))) := pget (p₆.trans p₇) hc₅
      have hlS : LI σ₇ k₂ (countsOf R 5) := pget (p₆.trans p₇) hl₅
      have hcl := countsOf_len R 5
      refine WE.comp (tail := emitT _) (fun _ _ _ => rfl) ⟨by decide, by rw [hcc]; rfl, rfl, by decide⟩ ?_ (by intro _ _; rfl)
      repeat wtm_at "step"
      refine CompFrom.one (Src.list e₈) (fun σ' hp => pget hp e₈) (by simp; decide) (fun _ => true) (fun q => .int ((countsOf R 5).getD (twos.getD q 0) 0 + (countsOf R 5).getD (31 - twos.getD q 0) 0)) ?_ ?_
      · intro cx' q x loc₉ σ₉ hcx hx p₉
        rw [List.getElem?_map, List.getElem?_map, Option.map_map, Option.map_eq_some_iff] at hx
        obtain ⟨y, hy, rfl⟩ := hx
        show WA G n cx' _ (MV.int (y : Int)) _ _ _
        have hym : y ∈ twos := List.mem_of_getElem? hy
        have hy32 : y < 32 := by unfold twos at hym; simp at hym; lia
        have hgy : twos.getD q 0 = y := by rw [List.getD_eq_getElem?_getD, hy]; rfl
        have hsc' : cx'.scope = { kind := .function, names := [(Str.ofString ".0", .local), (Str.ofString "two", .local), (Str.ofString "counts", .cell)], isGenerator := false, isCoroutine := false } := by
          rw [hcx]
          show relabelM _ cx = _
          unfold relabelM
          rw [hsc]
          rfl
        have hcc' : cx'.cells = [(Str.ofString "counts", c + 1 + 1)] := by
          rw [hcx]
          show idx (cellNames _) _ ++ freeIdx cx.cells _ [] = _
          rw [hcc]
          rfl
        clear hsc hcc hcx
        have g1 := pget p₉ hcS
        have g2 : LI σ₉ k₂ _ := pget p₉ hlS
        unfold LI at g2
        generalize countsOf R 5 = cs at g2 hcl ⊢
        repeat wtm_at "step"
        refine ⟨rfl, List.prefix_rfl, fun _ => ?_⟩
        repeat wtm_at "step"
        refine OS.list (xs := cs.map .int) (v := .int (cs.getD y 0)) g2 (by lia) (by simp; lia) (by simp; lia) (by unfold ixOf; rw [if_pos (by lia)]; simp [List.getD_eq_getElem?_getD]; rw [List.getElem?_eq_getElem (by lia)]; rfl) ?_ (by intro _ _; exact ⟨_, rfl⟩)
        repeat wtm_at "step"
        refine OS.list (xs := cs.map .int) (v := .int (cs.getD (31 - y) 0)) g2 (by simp; lia) (by simp; lia) (by simp; lia) (by unfold ixOf; rw [if_pos (by lia), show ((31 : Int) - (y : Int)).toNat = 31 - y by lia]; simp [List.getD_eq_getElem?_getD]; rw [List.getElem?_eq_getElem (by lia)]; rfl) ?_ (by intro _ _; exact ⟨_, rfl⟩)
        repeat wtm_at "step"
        exact ⟨by rw [hgy], by wtm_at "pre"⟩
      · intro σ₉ p₉ e₉
        repeat wtm_at "step"
        refine ⟨_, rfl, hP σ₉ _ (p₅.trans (p₆.trans (p₇.trans p₉))) ?_⟩
        unfold LI
        rw [e₉]
        rfl
  · refine ⟨(a₃ _ (p₀.trans (p₁.trans p₂)) (by lia)).trans p₄, pget p₄ ((b₃ _ (by lia)).trans (pget (p₁.trans p₂) cr)), pget p₄ e₃, ?_, ⟨_, pget p₄ ((b₃ _ (by lia)).trans (pget (p₁.trans p₂) ck))⟩, ⟨_, pget p₄ ((b₃ _ (by lia)).trans (pget (p₁.trans p₂) ci))⟩⟩
    have := pget p₄ ((b₃ k₂ (by lia)).trans e₂)
    exact this
  · trivial

noncomputable def crlf : List Nat → List Nat
  | [] => []
  | 13 :: 10 :: l => 13 :: 10 :: crlf l
  | c :: l => if c = 13 ∨ c = 10 then 13 :: 10 :: crlf l else c :: crlf l
noncomputable def dots : Bool → List Nat → List Nat
  | _, [] => []
  | b, c :: l => if (b && c == 46) = true then 46 :: 46 :: dots false l else c :: dots (c == 10) l

theorem crlf_plain {c : Nat} (l : List Nat) (h1 : c ≠ 13) (h2 : c ≠ 10) : crlf (c :: l) = c :: crlf l := by
  conv => lhs; unfold crlf
  split
  · next h => cases h
  · next h => cases h; exact absurd rfl h1
  · next h => cases h; rw [if_neg (by lia)]
theorem crlf_feed (l : List Nat) : crlf (10 :: l) = 13 :: 10 :: crlf l := by
  conv => lhs; unfold crlf
  split
  · next h => cases h
  · next h => cases h
  · next h => cases h; rw [if_pos (by lia)]
theorem crlf_both (l : List Nat) : crlf (13 :: 10 :: l) = 13 :: 10 :: crlf l := by
  rw [crlf]
theorem crlf_ret (l : List Nat) (h : l.head? ≠ some 10) : crlf (13 :: l) = 13 :: 10 :: crlf l := by
  conv => lhs; unfold crlf
  split
  · next h => cases h
  · next h' => cases h'; exact absurd rfl h
  · next h => cases h; rw [if_pos (by lia)]

theorem first_spec {c : Nat → Bool} : ∀ (k s : Nat), (∀ q, first c k s = some q → s ≤ q ∧ c q = true ∧ ∀ i, s ≤ i → i < q → c i = false) ∧ (first c k s = none → ∀ i, s ≤ i → i < s + k → c i = false)
  | 0, s => ⟨fun q h => (by cases h), fun _ i h1 h2 => (by lia)⟩
  | k + 1, s => by
    have ih := first_spec (c := c) k (s + 1)
    unfold first
    cases hc : c s
    · rw [if_neg (by simp)]
      refine ⟨fun q h => ?_, fun h i h1 h2 => ?_⟩
      · obtain ⟨a, b, d⟩ := ih.1 q h
        refine ⟨by lia, b, fun i h1 h2 => ?_⟩
        rcases Nat.eq_or_lt_of_le h1 with rfl | h1
        · exact hc
        · exact d i h1 h2
      · rcases Nat.eq_or_lt_of_le h1 with rfl | h1
        · exact hc
        · exact ih.2 h i h1 (by lia)
    · rw [if_pos rfl]
      refine ⟨fun q h => ?_, fun h => by cases h⟩
      cases h
      exact ⟨Nat.le_refl _, hc, fun i h1 h2 => by lia⟩

theorem getD_lt {l : List Nat} {i : Nat} (h : i < l.length) : l.toArray.getD i 0 = l[i] := by
  simp [h]

theorem crlf_skip (l : List Nat) : ∀ (j s q : Nat), q - s = j → s ≤ q → q ≤ l.length → (∀ i, s ≤ i → i < q → c2 l.toArray l.length i = false) → crlf (l.drop s) = (l.drop s).take (q - s) ++ crlf (l.drop q)
  | 0, s, q, hj, hs, hq, h => by
    have : s = q := by lia
    subst this
    simp
  | j + 1, s, q, hj, hs, hq, h => by
    have hlt : s < l.length := by lia
    have h0 := h s (Nat.le_refl _) (by lia)
    unfold c2 at h0
    rw [getD_lt hlt] at h0
    simp only [hlt, decide_true, Bool.true_and, Bool.or_eq_false_iff, beq_eq_false_iff_ne] at h0
    rw [List.drop_eq_getElem_cons hlt, crlf_plain _ h0.2 h0.1, crlf_skip l j (s + 1) q (by lia) (by lia) hq fun i h1 h2 => h i (by lia) h2, show q - s = (q - (s + 1)) + 1 by lia, List.take_succ_cons, List.cons_append]
theorem crlf_at (l : List Nat) (q : Nat) (h : c2 l.toArray l.length q = true) : crlf (l.drop q) = 13 :: 10 :: crlf (l.drop (e2 l.toArray l.length q)) := by
  unfold c2 at h
  simp only [Bool.and_eq_true, decide_eq_true_eq, Bool.or_eq_true, beq_iff_eq] at h
  obtain ⟨hlt, h⟩ := h
  unfold e2
  rw [getD_lt hlt] at h ⊢
  rw [List.drop_eq_getElem_cons hlt]
  rcases h with h | h
  · rw [h, crlf_feed, if_neg (by lia)]
  · rw [h]
    by_cases hn : q + 1 < l.length ∧ l.toArray.getD (q + 1) 0 = 10
    · rw [if_pos ⟨rfl, hn⟩]
      have h2 := hn.2
      rw [getD_lt hn.1] at h2
      rw [List.drop_eq_getElem_cons hn.1, h2, crlf_both]
    · rw [if_neg (fun h => hn h.2)]
      refine crlf_ret _ fun hh => hn ?_
      rw [List.head?_drop] at hh
      obtain ⟨h1, h2⟩ := List.getElem?_eq_some_iff.mp hh
      exact ⟨h1, by rw [getD_lt h1]; exact h2⟩

noncomputable def find2 (l : List Nat) (s : Nat) : Option Nat := first (c2 l.toArray l.length) (l.length + 1 - s) s
noncomputable def find1 (l : List Nat) (s : Nat) : Option Nat := first (c1 l.toArray l.length) (l.length - s + 1) s

theorem e2_bounds (l : List Nat) (q : Nat) (h : q < l.length) : q < e2 l.toArray l.length q ∧ e2 l.toArray l.length q ≤ l.length := by
  unfold e2; split <;> lia
theorem find2_ok (l : List Nat) (s q : Nat) (h : find2 l s = some q) : s ≤ q ∧ q < e2 l.toArray l.length q ∧ e2 l.toArray l.length q ≤ l.length := by
  obtain ⟨h1, h2, _⟩ := (first_spec _ _).1 q h
  unfold c2 at h2
  simp only [Bool.and_eq_true, decide_eq_true_eq] at h2
  have := e2_bounds l q h2.1
  lia
theorem find1_ok (l : List Nat) (s q : Nat) (h : find1 l s = some q) : s ≤ q ∧ q < q + 1 ∧ q + 1 ≤ l.length := by
  obtain ⟨h1, h2, _⟩ := (first_spec _ _).1 q h
  unfold c1 at h2
  simp only [Bool.and_eq_true, decide_eq_true_eq] at h2
  lia

theorem pieces_crlf (l : List Nat) : ∀ (k s : Nat), l.length - s ≤ k → s ≤ l.length → (pieces (find2 l) (e2 l.toArray l.length) [13, 10] l k s).flatten = crlf (l.drop s) := by
  have none_case : ∀ s, s ≤ l.length → find2 l s = none → (if s < l.length then [l.drop s] else []).flatten = crlf (l.drop s) := by
    intro s hs hf
    have h1 := (first_spec _ _).2 hf
    rw [crlf_skip l (l.length - s) s l.length rfl hs (Nat.le_refl _) fun i h2 h3 => h1 i h2 (by lia)]
    split
    · rw [List.drop_length]; simp [crlf]; rw [List.take_of_length_le (by simp)]
    · rw [show s = l.length by lia]; simp [crlf]
  intro k
  induction k with
  | zero =>
    intro s hk hs
    unfold pieces
    refine none_case s hs ?_
    exact first_none _ _ fun q hq => by unfold c2; rw [decide_eq_false (by lia)]; rfl
  | succ k ih =>
    intro s hk hs
    unfold pieces
    cases hf : find2 l s with
    | none => exact none_case s hs hf
    | some q =>
      obtain ⟨h1, h2, h3⟩ := (first_spec _ _).1 q hf
      obtain ⟨b1, b2, b3⟩ := find2_ok l s q hf
      dsimp only
      rw [crlf_skip l (q - s) s q rfl h1 (by lia) h3, crlf_at l q h2, ← ih (e2 l.toArray l.length q) (by lia) b3]
      split
      · simp
      · rw [show q - s = 0 by lia]; simp

noncomputable def bol (l : List Nat) (s : Nat) : Bool := s == 0 || l.toArray.getD (s - 1) 0 == 10
theorem bol_succ (l : List Nat) {s : Nat} (h : s < l.length) : bol l (s + 1) = (l[s] == 10) := by
  unfold bol
  rw [Nat.add_sub_cancel, getD_lt h]; simp
theorem dots_skip (l : List Nat) : ∀ (j s q : Nat), q - s = j → s ≤ q → q ≤ l.length → (∀ i, s ≤ i → i < q → c1 l.toArray l.length i = false) → dots (bol l s) (l.drop s) = (l.drop s).take (q - s) ++ dots (bol l q) (l.drop q)
  | 0, s, q, hj, hs, hq, h => by
    have : s = q := by lia
    subst this
    simp
  | j + 1, s, q, hj, hs, hq, h => by
    have hlt : s < l.length := by lia
    have h0 := h s (Nat.le_refl _) (by lia)
    have e : (bol l s && l[s] == 46) = false := by
      unfold c1 at h0
      rw [getD_lt hlt] at h0
      simpa [hlt, bol] using h0
    rw [List.drop_eq_getElem_cons hlt]
    conv => lhs; unfold dots
    rw [e, if_neg (by simp), ← bol_succ l hlt, dots_skip l j (s + 1) q (by lia) (by lia) hq fun i h1 h2 => h i (by lia) h2, show q - s = (q - (s + 1)) + 1 by lia, List.take_succ_cons, List.cons_append]
theorem dots_at (l : List Nat) (q : Nat) (h : c1 l.toArray l.length q = true) : dots (bol l q) (l.drop q) = 46 :: 46 :: dots (bol l (q + 1)) (l.drop (q + 1)) := by
  have hh := h
  unfold c1 at h
  simp only [Bool.and_eq_true, decide_eq_true_eq, beq_iff_eq] at h
  have hlt := h.2.1
  have h46 := h.2.2
  rw [getD_lt hlt] at h46
  have e : (bol l q && l[q] == 46) = true := by
    rw [h46]; simp; exact h.1
  rw [List.drop_eq_getElem_cons hlt]
  conv => lhs; unfold dots
  rw [e, if_pos rfl, bol_succ l hlt, h46]
  rfl
theorem pieces_dots (l : List Nat) : ∀ (k s : Nat), l.length - s ≤ k → s ≤ l.length → (pieces (find1 l) (· + 1) [46, 46] l k s).flatten = dots (bol l s) (l.drop s) := by
  have none_case : ∀ s, s ≤ l.length → find1 l s = none → (if s < l.length then [l.drop s] else []).flatten = dots (bol l s) (l.drop s) := by
    intro s hs hf
    have h1 := (first_spec _ _).2 hf
    rw [dots_skip l (l.length - s) s l.length rfl hs (Nat.le_refl _) fun i h2 h3 => h1 i h2 (by lia)]
    split
    · rw [List.drop_length]; simp [dots]; rw [List.take_of_length_le (by simp)]
    · rw [show s = l.length by lia]; simp [dots]
  intro k
  induction k with
  | zero =>
    intro s hk hs
    unfold pieces
    refine none_case s hs ?_
    exact first_none _ _ fun q hq => by unfold c1; rw [decide_eq_false (by lia)]; simp
  | succ k ih =>
    intro s hk hs
    unfold pieces
    cases hf : find1 l s with
    | none => exact none_case s hs hf
    | some q =>
      obtain ⟨h1, h2, h3⟩ := (first_spec _ _).1 q hf
      obtain ⟨b1, b2, b3⟩ := find1_ok l s q hf
      dsimp only
      rw [dots_skip l (q - s) s q rfl h1 (by lia) h3, dots_at l q h2, ← ih (q + 1) (by lia) b3]
      split
      · simp
      · rw [show q - s = 0 by lia]; simp

/-! the mails -/
noncomputable def sentRow (x : Int) : List Nat := if x % 2 = 1 then [46, 46, (97 + x / 2).toNat] else [(97 + x / 2).toNat]
theorem crlf_mail (code : Int) : ∀ (w : List Int) (k : Nat), (∀ x ∈ w, 0 ≤ x ∧ x < 6) → crlf (mailRows code k w).flatten = txt (w.map fun x => (List.replicate (x % 2).toNat [46]).flatten ++ [(97 + x / 2).toNat])
  | [], k, _ => by simp [mailRows, crlf, txt]
  | x :: w, k, h => by
    have ih := crlf_mail code w (k + 1) fun y hy => h y (by simp [hy])
    have hx := h x (by simp)
    rw [mailRows, List.flatten_cons, List.map_cons, txt_cons, ← ih]
    have head : ∀ (w : List Int) (k : Nat), (∀ x ∈ w, 0 ≤ x ∧ x < 6) → (mailRows code k w).flatten.head? ≠ some 10 := by
      intro w k h
      cases w with
      | nil => simp [mailRows]
      | cons y w =>
        have hy := h y (by simp)
        rw [mailRows, List.flatten_cons]
        unfold mailRow
        have : (y % 2).toNat = 0 ∨ (y % 2).toNat = 1 := by lia
        rcases this with e | e <;> rw [e] <;> simp
        lia
    have hh := head w (k + 1) fun y hy => h y (by simp [hy])
    generalize (mailRows code (k + 1) w).flatten = t at hh
    have hend : ∀ c, c ≠ 13 → c ≠ 10 → ∀ i, crlf (c :: (endOf i ++ t)) = c :: 13 :: 10 :: crlf t := by
      intro c h1 h2 i
      rw [crlf_plain _ h1 h2]
      unfold endOf
      split
      · rw [List.cons_append, List.cons_append, List.nil_append, crlf_both]
      · split
        · rw [List.cons_append, List.nil_append, crlf_feed]
        · rw [List.cons_append, List.nil_append, crlf_ret t hh]
    unfold mailRow
    have : (x % 2).toNat = 0 ∨ (x % 2).toNat = 1 := by lia
    rcases this with e | e
    · rw [e]
      simp only [List.replicate_zero, List.flatten_nil, List.nil_append, List.cons_append, List.append_assoc]
      rw [hend _ (by lia) (by lia)]
    · rw [e]
      simp only [List.replicate_succ, List.replicate_zero, List.flatten_cons, List.flatten_nil, List.nil_append, List.cons_append, List.append_assoc]
      rw [crlf_plain _ (by lia) (by lia), hend _ (by lia) (by lia)]
theorem dots_mail : ∀ (w : List Int), (∀ x ∈ w, 0 ≤ x ∧ x < 6) → dots true (txt (w.map fun x => (List.replicate (x % 2).toNat [46]).flatten ++ [(97 + x / 2).toNat])) = txt (w.map sentRow)
  | [], _ => rfl
  | x :: w, h => by
    have ih := dots_mail w fun y hy => h y (by simp [hy])
    have hx := h x (by simp)
    rw [List.map_cons, txt_cons, List.map_cons, txt_cons, ← ih]
    generalize txt (w.map fun x => (List.replicate (x % 2).toNat [46]).flatten ++ [(97 + x / 2).toNat]) = t
    have hp : ∀ (b : Bool) (c : Nat) (l : List Nat), (b && c == 46) = false → dots b (c :: l) = c :: dots (c == 10) l := by
      intro b c l hb
      conv => lhs; unfold dots
      rw [hb]; rfl
    have hd : ∀ (l : List Nat), dots true (46 :: l) = 46 :: 46 :: dots false l := by
      intro l
      conv => lhs; unfold dots
      rfl
    have h13 : ∀ (c : Nat) (l : List Nat), 97 ≤ c → dots (c == 10) (13 :: 10 :: l) = 13 :: 10 :: dots true l := by
      intro c l hc
      rw [hp _ _ _ (by simp), hp _ _ _ (by simp)]
      rfl
    have : (x % 2).toNat = 0 ∨ (x % 2).toNat = 1 := by lia
    unfold sentRow
    rcases this with e | e
    · rw [e, if_neg (by lia)]
      simp only [List.replicate_zero, List.flatten_nil, List.nil_append, List.cons_append, List.append_assoc]
      rw [hp _ _ _ (by simp; lia), h13 _ _ (by lia)]
    · rw [e, if_pos (by lia)]
      simp only [List.replicate_succ, List.replicate_zero, List.flatten_cons, List.flatten_nil, List.nil_append, List.cons_append, List.append_assoc]
      rw [hd, hp _ _ _ (by simp), h13 _ _ (by lia)]

section
variable {G : Gl} {n : Nat} {cx : Cx} {loc : Loc} {σ : List MO} {P : MV → List MO → Prop}
theorem WE.methodT {o : Expr} {name : Str} {ap pos : Pos} {es : List Expr} {T id : String} {a : Addr} {ob : Obj} (hT : PlainAttrs T) (hS : Slot T name id) (hd : typeOf (.builtin id) = pure (.type "method_descriptor")) (hob : G.K.lookup a = some ob) (hcls : ob.cls = .type T) (hdict : ob.dict = none)
    (h : WE G n cx o loc σ fun v σ₁ => v = .top (.ref a) ∧ WEs G n cx es loc σ₁ fun vs σ₂ => OCall G n (.top (.builtin id)) (.top (.ref a) :: vs) σ₂ P)
    (hb : ∀ env, attributeBase o name env (eval o env) = eval o env := by intro _; rfl)
    (hargs : ∀ env, ((((backTo pos (starEach es env)).all fun x => !x.fst) && (backToKw pos (keywordEach [] env)).all fun x => x.fst.isSome) && decide ((es.length + ([] : List Keyword).length + if ([] : List Keyword).isEmpty = true then 0 else 1) < 30)) = true := by intro _; rfl)
    (hl : (ap.endLine == pos.line) = true := by rfl) (hp : (es.all fun | .Starred .. => false | _ => true) = true := by rfl) : WE G n cx (.Call (.Attribute o name ap) es [] pos) loc σ P := by
  intro A fr env L ρ s Q hA hact hrel hQ
  refine wpAny_Call_method (hb env) (hargs env) hl hT hS hd (h A fr env L ρ s _ hA hact hrel ?_)
  rintro ρ₁ v va _ σ₁ h₁ t₁ S₁ R₁ rel₁ ⟨rfl, rfl, hP₁⟩
  cases R₁
  have hob₁ := rel₁.base _ _ (G.X _ _ hob)
  refine ⟨⟨_, hob₁, hcls⟩, (by intro b e; cases e; exact ⟨_, hob₁, hdict⟩), ?_⟩
  refine callWith_top (by intro _ e; cases e) (plain_args pos env hp) (evalArgs_any hp (hP₁ pos A fr env L ρ₁ _ _ hA (hact.mono S₁.pre) rel₁ ?_))
  rintro ρ₂ vs us _ σ₂ h₂ t₂ S₂ R₂ rel₂ ⟨rfl, hP₂⟩
  refine hP₂ A fr L ρ₂ _ (.builtin id :: .ref a :: us) _ _ hA rel₂ ⟨rfl, rfl, R₂⟩ ?_
  rintro ρ₃ w vw σ₃ h₃ t₃ S₃ R₃ rel₃ hP₃
  exact hQ ρ₃ w vw _ σ₃ h₃ t₃ (S₁.trans (S₂.trans S₃)) R₃ rel₃ ⟨rfl, hP₃⟩

theorem OCall.sub {pat ct : Addr} {code : Array Nat} {l rep : List Nat} {find : Nat → Option Nat} {e : Nat → Nat} {B : Nat} {ob ob' : Obj} {vs items : Array Value} {m : Nat} (hob : G.K.lookup pat = some ob) (hcls : ob.cls = .type "re.Pattern") (hd : ob.data = .fields vs) (h5 : vs.getD 5 .none = .ref ct) (h2 : vs.getD 2 .none = .int 0 0) (h6 : vs.getD 6 .none = .int 0 0)
    (hob' : G.K.lookup ct = some ob') (hd' : ob'.data = .seq items m) (hcode : (items.map Builtin.Re.reRawOf).map (·.toNat) = code)
    (hl : l.length ≤ 1000) (hr : rep.length ≤ 10) (hb : rep.contains 92 = false) (hB : B ≤ 2 ^ 65)
    (hsearch : ∀ s, s ≤ l.length → Ends B (Sre.forSearch code l.toArray 0 s l.length false) (Found (find s) e)) (hfind : ∀ s q, find s = some q → s ≤ q ∧ q < e q ∧ e q ≤ l.length)
    (h : P (.str (S (pieces find e rep l l.length 0).flatten)) σ) : OCall G n (.top (.builtin "re.Pattern.sub")) [.top (.ref pat), .str (S rep), .str (S l)] σ P := by
  intro A fr L ρ loc us s Q hA hrel hus hQ
  obtain ⟨f, u, v, w, rfl, hf, hu, ⟨t', rfl⟩, t₃, rfl⟩ := four hus
  cases hf
  cases hu
  have e1 := hrel.base _ _ (G.X _ _ hob)
  have e2 := hrel.base _ _ (G.X _ _ hob')
  exact sub_call (find := find) (e := e) hl hr hb hB hsearch hfind ⟨⟨_, vs, e1, hd, h5, h2, h6⟩, ⟨_, items, m, e2, hd', hcode⟩⟩ ⟨_, e1, hcls⟩ fun h' tk t' kp => hQ ρ (.str (S (pieces find e rep l l.length 0).flatten)) _ σ h' tk (.ext kp) ⟨_, rfl⟩ (hrel.ext kp) h
end

theorem crlf_len : ∀ (l : List Nat), (crlf l).length ≤ 2 * l.length := by
  intro l
  induction l using crlf.induct with
  | case1 => simp [crlf]
  | case2 l ih => rw [crlf_both]; simp; lia
  | case3 c l h1 h2 ih =>
    rw [crlf, if_pos h2]
    · simp; lia
    · exact h1
  | case4 c l h1 h2 ih =>
    rw [crlf, if_neg h2]
    · simp; lia
    · exact h1

theorem quoted_c {G : Gl} {n : Nat} {σ : List MO} {P : MV → List MO → Prop} (hK : G.K = hd.heap_39 G.w.params) {l : List Nat} (hl : l.length ≤ 500) (hP : P (.str (S (dots true (crlf l)))) σ) : OCall G (n + 1) (.top (.ref 69)) [.str (S l)] σ P := by
  refine' OCall.def0 (loc := [(Str.ofString "data", (.str (S l)))]) [Str.ofString "data"] ?ho ?hcd ?hb ?hkx ?hnc ?hco ?hgen ?hkk ?hloc ?hbody
  case ho => rw [hK]; k_is
  case hcd => rw [hK]; k_is
  case hb => intro us hus; obtain ⟨_, rfl⟩ := len1 hus; rfl
  case hkx => decide
  case hnc => decide
  case hco => rfl
  case hgen => rfl
  case hkk => rfl
  case hloc => rfl
  intro cx hsc hcc
  repeat wtm_at "step"
  refine' WE.methodT (a := 57) (T := "re.Pattern") (id := "re.Pattern.sub") pa_pat slot_sub type_sub ?hob_0 ?hcls_0 ?hdict_0 ?hh_0 (hb := by with_unfolding_all (intro _; rfl)) (hargs := by with_unfolding_all (intro _; rfl)) (hl := by with_unfolding_all rfl) (hp := by with_unfolding_all rfl)
  case hob_0 => rw [hK]; k_is
  case hcls_0 => rfl
  case hdict_0 => rfl
  repeat wtm_at "step"
  refine ld_re1 hK (kind_of hsc rfl) (name_of hsc rfl) ⟨rfl, ?_⟩
  repeat wtm_at "step"
  refine' WE.methodT (a := 62) (T := "re.Pattern") (id := "re.Pattern.sub") pa_pat slot_sub type_sub ?hob_1 ?hcls_1 ?hdict_1 ?hh_1 (hb := by with_unfolding_all (intro _; rfl)) (hargs := by with_unfolding_all (intro _; rfl)) (hl := by with_unfolding_all rfl) (hp := by with_unfolding_all rfl)
  case hob_1 => rw [hK]; k_is
  case hcls_1 => rfl
  case hdict_1 => rfl
  repeat wtm_at "step"
  refine ld_re2 hK (kind_of hsc rfl) (name_of hsc rfl) ⟨rfl, ?_⟩
  repeat wtm_at "step"
  have e0 : (pieces (find2 l) (e2 l.toArray l.length) [13, 10] l l.length 0).flatten = crlf l := by
    rw [pieces_crlf l l.length 0 (by lia) (Nat.zero_le _), List.drop_zero]
  refine' OCall.sub (ct := 61) (code := code2) (find := find2 l) (e := e2 l.toArray l.length) (B := 20) ?hob_2 ?hcls_2 ?hd_2 ?h5_2 ?h2_2 ?h6_2 ?hobq_2 ?hdq_2 ?hcode_2 (by lia) (by decide) (by decide) (by decide) (fun s hs => search2 l.toArray l.length s hs) (find2_ok l) ?hh_2
  case hob_2 => rw [hK]; k_is
  case hcls_2 => rfl
  case hd_2 => rfl
  case h5_2 => rfl
  case h2_2 => rfl
  case h6_2 => rfl
  case hobq_2 => rw [hK]; k_is
  case hdq_2 => rfl
  case hcode_2 => simp [code2, Builtin.Re.reRawOf]
  rw [e0]
  repeat wtm_at "step"
  have hcl := crlf_len l
  have e1 : (pieces (find1 (crlf l)) (· + 1) [46, 46] (crlf l) (crlf l).length 0).flatten = dots true (crlf l) := by
    rw [pieces_dots (crlf l) (crlf l).length 0 (by lia) (Nat.zero_le _), List.drop_zero]; rfl
  refine' OCall.sub (ct := 56) (code := code1) (find := find1 (crlf l)) (e := (· + 1)) (B := 4 * (crlf l).length + 10) ?hob_3 ?hcls_3 ?hd_3 ?h5_3 ?h2_3 ?h6_3 ?hobq_3 ?hdq_3 ?hcode_3 (by lia) (by decide) (by decide) (by lia) (fun s hs => search1 (crlf l).toArray (crlf l).length s hs) (find1_ok (crlf l)) ?hh_3
  case hob_3 => rw [hK]; k_is
  case hcls_3 => rfl
  case hd_3 => rfl
  case h5_3 => rfl
  case h2_3 => rfl
  case h6_3 => rfl
  case hobq_3 => rw [hK]; k_is
  case hdq_3 => rfl
  case hcode_3 => simp [code1, Builtin.Re.reRawOf]
  rw [e1]
  repeat wtm_at "step"
  exact ⟨_, rfl, hP⟩

theorem call_enum_name {G : Gl} {n : Nat} {cx : Cx} {loc : Loc} {σ : List MO} {P : MV → List MO → Prop} (hK : G.K = hd.heap_39 G.w.params) (hk : cx.scope.kind = .function) (hx : cx.scope.names.lookup (Str.ofString "enumerate") = some .globalImplicit) (h : P (.top (.type "enumerate")) σ) : WL G n cx (Str.ofString "enumerate") loc σ P := by
  refine' WL.b hk hx ?he ?hv (by decide) h
  case he => rw [hK]; k_is
  case hv => kernel_rfl

theorem codes_c {G : Gl} {n : Nat} {σ : List MO} {P : MV → List MO → Prop} (hK : G.K = hd.heap_39 G.w.params) {a : Addr} {vs : List Value} {xs : List Int} (ha : G.H₀.IsList a (List.toArray vs)) (hxs : IntsAre vs xs) (hl : xs.length ≤ 1000)
   (hP : ∀ σ' j cs, σ <+: σ' → LI σ' j cs → cs.length = 5 → (∀ c ∈ cs, 0 ≤ c) → P (.obj j) σ') : OCall G (n + 1) (.top (.ref 76)) [.top (.ref a)] σ P := by
  refine' OCall.def0 (loc := [(Str.ofString "script", (.top (.ref a)))]) [Str.ofString "script"] ?ho ?hcd ?hb ?hkx ?hnc ?hco ?hgen ?hkk ?hloc ?hbody
  case ho => rw [hK]; k_is
  case hcd => rw [hK]; k_is
  case hb => intro us hus; obtain ⟨_, rfl⟩ := len1 hus; rfl
  case hkx => decide
  case hnc => decide
  case hco => rfl
  case hgen => rfl
  case hkk => rfl
  case hloc => rfl
  intro cx hsc hcc
  repeat wtm_at "step"
  intro σ₁ k₁ p₁ e₁ l₁
  repeat wtm_at "step"
  refine WS.forEnum (hs := by intro _ _; rfl) ?_ rfl
  refine call_enum_name hK (kind_of hsc rfl) (name_of hsc rfl) ⟨rfl, ?_⟩
  refine WEs.cons (he := by with_unfolding_all (intro _; rfl)) ?_
  refine WE.uptoT (hs := by with_unfolding_all (intro _ _; exact ⟨_, rfl⟩)) ?_
  repeat wtm_at "step"
  refine ⟨a, vs, xs, 60, rfl, ha, hxs, by lia, rfl, by decide, ?_⟩
  intro σ₂ k₂ p₂ e₂ l₂
  repeat wtm_at "step"
  refine ⟨k₂, _, rfl, e₂, ?_⟩
  have hk1 : k₁ < σ₁.length := (List.getElem?_eq_some_iff.mp e₁).1
  have hpl := p₁.length_le
  refine enumChain_inv (fun i loc σ' => loc.lookup (Str.ofString "codes") = some (.obj k₁) ∧ σ <+: σ' ∧ ∃ cs : List Int, LI σ' k₁ cs ∧ cs.length = 5 ∧ ∀ c ∈ cs, 0 ≤ c) ?_ ?_ ⟨by with_unfolding_all (wtm_at "look"), p₁.trans p₂, [1230, 2490, 41, 485, 222], pget p₂ e₁, rfl, by decide⟩ e₂
  · rintro i x loc σ₃ hx hok ⟨hlk, p₃, cs, hcs, h5, h0⟩
    rw [List.getElem?_map, Option.map_eq_some_iff] at hx
    obtain ⟨y, hy, rfl⟩ := hx
    unfold LI at hcs
    have hlk' : (((Str.ofString "x", MV.int y) :: (Str.ofString "k", MV.int i) :: loc) : Loc).lookup (Str.ofString "codes") = some (.obj k₁) := look_ne (by decide) (look_ne (by decide) hlk)
    repeat wtm_at "step"
    have hi : ((i : Int)).fmod 5 = ((i % 5 : Nat) : Int) := by rw [Int.fmod_eq_emod_of_nonneg _ (by decide)]; lia
    rw [hi]
    have hlt : i % 5 < cs.length := by lia
    refine O.getL (xs := cs.map .int) (v := .int cs[i % 5]) hcs (by lia) (by simp; lia) (by simp; lia) (by rw [show ((i % 5 : Nat) : Int).toNat = i % 5 from rfl]; simp [hlt]) ?_
    repeat wtm_at "step"
    refine O.setL' hcs (by lia) (by simp; lia) (by simp; lia) ?_
    intro σ₄ q₄ b₄ e₄ a₄
    repeat wtm_at "step"
    have hk21 : k₂ ≠ k₁ := by have := p₂.length_le; lia
    refine ⟨(b₄ _ hk21).trans hok, hlk', a₄ _ p₃ (by lia), cs.set (i % 5) (cs[i % 5] + y.fmod 3240), ?_, by simp [h5], fun c hc => ?_⟩
    · unfold LI
      rw [e₄, List.map_set]
      rfl
    · rcases List.mem_or_eq_of_mem_set hc with h | rfl
      · exact h0 c h
      · have := h0 _ (List.getElem_mem hlt)
        rw [Int.fmod_eq_emod_of_nonneg _ (by decide)]
        lia
  · rintro loc σ₃ hok ⟨hlk, p₃, cs, hcs, h5, h0⟩
    repeat wtm_at "step"
    exact ⟨_, rfl, hP σ₃ k₁ cs p₃ hcs h5 h0⟩

theorem varint_c1 {G : Gl} {n : Nat} {σ : List MO} {P : MV → List MO → Prop} (hK : G.K = hd.heap_39 G.w.params) {q k i : Nat} {xs : List MV} {b : Int} (hq : σ[q]? = some (.iter k i)) (hk : σ[k]? = some (.list xs)) (hx : xs[i]? = some (.int b)) (h63 : Builtin.bitAnd b 63 = b) (h64 : Builtin.bitAnd b 64 = 0)
   (hP : Turned q (.iter k (i + 1)) σ (P (.int b))) : OCall G (n + 1) (.top (.ref 45)) [.obj q] σ P := by
  refine' OCall.def0 (loc := [(Str.ofString "iterator", (.obj q))]) [Str.ofString "iterator"] ?ho ?hcd ?hb ?hkx ?hnc ?hco ?hgen ?hkk ?hloc ?hbody
  case ho => rw [hK]; k_is
  case hcd => rw [hK]; k_is
  case hb => intro us hus; obtain ⟨_, rfl⟩ := len1 hus; rfl
  case hkx => decide
  case hnc => decide
  case hco => rfl
  case hgen => rfl
  case hkk => rfl
  case hloc => rfl
  intro cx hsc hcc
  repeat wtm_at "step"
  refine OCall.next hq hk hx ?_
  intro σ₁ q₁ b₁ e₁ a₁
  repeat wtm_at "step"
  rw [h63]
  refine WS.while_ (fun m loc σ' => loc.lookup (Str.ofString "b") = some (.int b) ∧ loc.lookup (Str.ofString "val") = some (.int b) ∧ σ' = σ₁) ?_ 0 ⟨by with_unfolding_all (wtm_at "look"), by with_unfolding_all (wtm_at "look"), rfl⟩
  rintro m loc _ ⟨hb, hv, rfl⟩
  repeat wtm_at "step"
  rw [h64]
  repeat wtm_at "step"
  refine ⟨fun h => absurd h (by decide), fun _ => ?_⟩
  repeat wtm_at "step"
  exact ⟨_, rfl, hP _ q₁ b₁ e₁ a₁⟩

theorem varint_c2 {G : Gl} {n : Nat} {σ : List MO} {P : MV → List MO → Prop} (hK : G.K = hd.heap_39 G.w.params) {q k i : Nat} {xs : List MV} {b c v v' : Int} (hq : σ[q]? = some (.iter k i)) (hk : σ[k]? = some (.list xs)) (hx : xs[i]? = some (.int b)) (hx' : xs[i + 1]? = some (.int c)) (h63 : Builtin.bitAnd b 63 = v) (h64 : (Builtin.bitAnd b 64 != 0) = true) (hbit : (Builtin.Int.intBits v : Int) ≤ 100)
   (hc63 : Builtin.bitOr (v * 2 ^ (6 : Int).toNat) (Builtin.bitAnd c 63) = v') (hc64 : Builtin.bitAnd c 64 = 0)
   (hP : Turned q (.iter k (i + 1 + 1)) σ (P (.int v'))) : OCall G (n + 1) (.top (.ref 45)) [.obj q] σ P := by
  have hqk : q ≠ k := fun e => by rw [e, hk] at hq; cases hq
  refine' OCall.def0 (loc := [(Str.ofString "iterator", (.obj q))]) [Str.ofString "iterator"] ?ho ?hcd ?hb ?hkx ?hnc ?hco ?hgen ?hkk ?hloc ?hbody
  case ho => rw [hK]; k_is
  case hcd => rw [hK]; k_is
  case hb => intro us hus; obtain ⟨_, rfl⟩ := len1 hus; rfl
  case hkx => decide
  case hnc => decide
  case hco => rfl
  case hgen => rfl
  case hkk => rfl
  case hloc => rfl
  intro cx hsc hcc
  repeat wtm_at "step"
  refine OCall.next hq hk hx ?_
  intro σ₁ q₁ b₁ e₁ a₁
  repeat wtm_at "step"
  rw [h63]
  refine WS.while_ (fun m loc σ' => (m = 1 ∧ loc.lookup (Str.ofString "b") = some (.int b) ∧ loc.lookup (Str.ofString "val") = some (.int v) ∧ loc.lookup (Str.ofString "iterator") = some (.obj q) ∧ σ' = σ₁) ∨
    (m = 0 ∧ loc.lookup (Str.ofString "b") = some (.int c) ∧ loc.lookup (Str.ofString "val") = some (.int v') ∧ σ'.length = σ.length ∧ (∀ j, j ≠ q → σ'[j]? = σ[j]?) ∧ σ'[q]? = some (.iter k (i + 1 + 1)) ∧ (∀ τ, τ <+: σ → τ.length ≤ q → τ <+: σ'))) ?_ 1 (.inl ⟨rfl, by with_unfolding_all (wtm_at "look"), by with_unfolding_all (wtm_at "look"), by with_unfolding_all (wtm_at "look"), rfl⟩)
  rintro m loc σ' (⟨rfl, hb, hv, hi, rfl⟩ | ⟨rfl, hb, hv, g1, g2, g3, g4⟩)
  · repeat wtm_at "step"
    refine ⟨fun _ => ?_, fun h => by rw [h64] at h; cases h⟩
    repeat wtm_at "step"
    refine OI.shl (by decide) (by lia) ?_
    repeat wtm_at "step"
    refine OCall.next e₁ ((b₁ _ (Ne.symm hqk)).trans hk) hx' ?_
    intro σ₂ q₂ b₂ e₂ a₂
    repeat wtm_at "step"
    rw [hc63]
    refine ⟨0, by decide, .inr ⟨rfl, by with_unfolding_all (wtm_at "look"), by with_unfolding_all (wtm_at "look"), q₂.trans q₁, fun j hj => (b₂ j hj).trans (b₁ j hj), e₂, fun τ h1 h2 => a₂ τ (a₁ τ h1 h2) h2⟩⟩
  · repeat wtm_at "step"
    rw [hc64]
    repeat wtm_at "step"
    refine ⟨fun h => absurd h (by decide), fun _ => ?_⟩
    repeat wtm_at "step"
    exact ⟨_, rfl, hP _ g1 g2 g3 g4⟩

noncomputable def enc (v : Int) : List Int := if v = 46 then [46] else if v = 10 then [10] else [v / 64 + 64, 13]
noncomputable def Num (v : Int) : Prop := v = 46 ∨ v = 10 ∨ v = 2125 ∨ v = 2189 ∨ v = 2253
theorem six {x : Int} (h : 0 ≤ x ∧ x < 6) : x = 0 ∨ x = 1 ∨ x = 2 ∨ x = 3 ∨ x = 4 ∨ x = 5 := by lia
theorem toldOf_num : ∀ (w : List Int), (∀ x ∈ w, 0 ≤ x ∧ x < 6) → ∀ v ∈ toldOf w, Num v := by
  intro w h v hv
  unfold toldOf at hv
  rw [List.mem_flatMap] at hv
  obtain ⟨x, hx, hv⟩ := hv
  unfold Num
  rcases six (h x hx) with rfl | rfl | rfl | rfl | rfl | rfl <;> simp at hv <;> lia
theorem enc_told : ∀ (w : List Int), (∀ x ∈ w, 0 ≤ x ∧ x < 6) → (txt (w.map sentRow)).map (fun c : Nat => (c : Int)) = (toldOf w).flatMap enc := by
  intro w
  induction w with
  | nil => intro _; rfl
  | cons x w ih =>
    intro h
    have hx := h x (by simp)
    have ih := ih fun y hy => h y (by simp [hy])
    rw [List.map_cons, txt_cons, List.map_append, List.map_append, ih]
    have e : toldOf (x :: w) = ((List.replicate (x % 2).toNat [46, 46]).flatten ++ [64 * (33 + x / 2) + 13, 10]) ++ toldOf w := rfl
    rw [e, List.flatMap_append, ← List.append_assoc]
    congr 1
    rcases six hx with rfl | rfl | rfl | rfl | rfl | rfl <;> rfl
theorem enc_at {nums : List Int} {i : Nat} {v : Int} (h : nums[i]? = some v) : ∃ r, (nums.flatMap enc).drop ((nums.take i).flatMap enc).length = enc v ++ r := by
  obtain ⟨hi, rfl⟩ := List.getElem?_eq_some_iff.mp h
  have e : nums.flatMap enc = (nums.take i).flatMap enc ++ (enc nums[i] ++ (nums.drop (i + 1)).flatMap enc) := by
    conv => lhs; rw [← List.take_append_drop i nums, List.drop_eq_getElem_cons hi]
    rw [List.flatMap_append, List.flatMap_cons]
  refine ⟨(nums.drop (i + 1)).flatMap enc, ?_⟩
  rw [e, List.drop_left]
theorem enc_take {nums : List Int} {i : Nat} {v : Int} (h : nums[i]? = some v) : ((nums.take (i + 1)).flatMap enc).length = ((nums.take i).flatMap enc).length + (enc v).length := by
  obtain ⟨hi, rfl⟩ := List.getElem?_eq_some_iff.mp h
  rw [List.take_succ_eq_append_getElem hi, List.flatMap_append, List.length_append]
  simp
theorem enc_get {nums : List Int} {i j : Nat} {v b : Int} (h : nums[i]? = some v) (hb : (enc v)[j]? = some b) : ((nums.flatMap enc).map MV.int)[((nums.take i).flatMap enc).length + j]? = some (.int b) := by
  obtain ⟨r, hr⟩ := enc_at h
  rw [List.getElem?_map, ← List.getElem?_drop, hr, List.getElem?_append_left (List.getElem?_eq_some_iff.mp hb).1, hb]
  rfl

theorem ex45 {K : Frag} {oc : Value} {od : Option Addr} {fd : FuncData} {osl : Array (Option Value)} (h : K.lookup 45 = some ⟨oc, od, .func fd, osl⟩) : ∃ oc od fd osl, K.lookup 45 = some ⟨oc, od, .func fd, osl⟩ := ⟨_, _, _, _, h⟩
theorem at45 {G : Gl} (hK : G.K = hd.heap_39 G.w.params) : ∃ oc od fd osl, G.K.lookup 45 = some ⟨oc, od, .func fd, osl⟩ := by
  refine' ex45 ?hf
  case hf => rw [hK]; k_is
theorem stops_read {G : Gl} {n : Nat} {cx : Cx} {loc : Loc} {σ : List MO} (hK : G.K = hd.heap_39 G.w.params) {q k i f : Nat} {xs ys : List MV} {p1 p2 p3 p4 p5 p6 p7 : Pos} (hkind : cx.scope.kind = .function) (hof : cx.scope.names.lookup (Str.ofString "found") = some .local) (hoo : cx.scope.names.lookup (Str.ofString "octets") = some .local) (hov : cx.scope.names.lookup (Str.ofString "_parse_varint") = some .globalImplicit)
   (hlf : loc.lookup (Str.ofString "found") = some (.obj f)) (hlo : loc.lookup (Str.ofString "octets") = some (.obj q)) (hf : σ[f]? = some (.list ys)) (hq : σ[q]? = some (.iter k i)) (hk : σ[k]? = some (.list xs)) (hi : xs.length ≤ i) (hl : (p2.endLine == p6.line) = true) :
   Stops G (n + 1) cx (.Expr (.Call (.Attribute (.Name (Str.ofString "found") p1) (Str.ofString "append") p2) [.Call (.Name (Str.ofString "_parse_varint") p3) [.Name (Str.ofString "octets") p4] [] p5] [] p6) p7) q loc σ := by
  intro A fr env L ρ I s Q E hA hfr hact hrel hI hE
  have hk' : env.scope.kind = .function := hact.kind hkind
  obtain ⟨mL, hnL, hmL⟩ := hrel.ns
  obtain ⟨uf, huf, ruf⟩ := hmL _ _ hlf
  obtain ⟨uo, huo, ruo⟩ := hmL _ _ hlo
  have euo : uo = .ref I := by
    obtain ⟨a, ea, rfl⟩ := ruo
    rw [hI] at ea; cases ea; rfl
  subst euo
  obtain ⟨lf, vsf, mf, rfl, elf, hlf', hvf⟩ := hrel.atList ruf hf
  refine wpAny_Expr (wpAny_Call_method (by rfl) (by rfl) hl F.plainAttrs_list F.slot_list_append F.type_list_append (wpAny_Name (wpAny_loadName_local hk' (hact.kindOf hof) (by rw [hact.loc]; exact hnL) huf ?_) (by decide))) (by unfold interactive; rw [hk']; rfl) (by rfl)
  refine ⟨⟨_, hlf', rfl⟩, (by intro b e; cases e; exact ⟨_, hlf', rfl⟩), ?_⟩
  have hp1 : ([Expr.Call (.Name (Str.ofString "_parse_varint") p3) [.Name (Str.ofString "octets") p4] [] p5].all fun | .Starred .. => false | _ => true) = true := rfl
  have hp2 : ([Expr.Name (Str.ofString "octets") p4].all fun | .Starred .. => false | _ => true) = true := rfl
  refine callWith_top (by intro a e; cases e) (plain_args p6 env hp1) (evalArgs_any hp1 ?_)
  refine spliced_cons (wpAny_Call_Name_kw (wpAny_Name (ks_loadName_global hk' (hact.kindOf hov) (loadGlobal_global (env := env) (by rw [hact.glob]; exact G.T.g.keeps hrel.base) (mg_of (v := .ref 45) G.X G.T.g ?_) ?_)) (by decide)))
  · rw [hK]; k_is
  obtain ⟨oc, od, fd, osl, h45⟩ := at45 hK
  refine' callWith_function (a := 45) (o := ⟨oc, od, .func fd, osl⟩) (fd := fd) (evalArgs_any hp2 ?hev)
  case hev =>
    refine spliced_cons (wpAny_Name (wpAny_loadName_local hk' (hact.kindOf hoo) (by rw [hact.loc]; exact hnL) huo ?_) (by decide))
    refine spliced_nil ?_
    refine ⟨⟨hrel.base _ _ (G.X _ _ h45), rfl⟩, ?_⟩
    refine' stop_def (f := 45) (q := q) (k := k) (i := i) (xs := xs) ?ho ?hcd ?hb ?hbody ?hx ?hnx ?hnc ?hco ?hgen ?hk ?hd ?hg ?hv hA hrel hq hk hi hI ?hE
    case ho => rw [hK]; k_is
    case hcd => rw [hK]; k_is
    case hb => intro us hus; obtain ⟨_, rfl⟩ := len1 hus; rfl
    case hbody => rfl
    case hx => rfl
    case hnx => rfl
    case hnc => rfl
    case hco => rfl
    case hgen => rfl
    case hk => rfl
    case hd => decide
    case hg => rw [hK]; k_is
    case hv => kernel_rfl
    case hE =>
      intro h' tk e base a0 h1 h2 h3 h4 h5
      exact hE h' tk e base a0 h1 h2 h3 h4 h5
theorem read_c {G : Gl} {n : Nat} {σ : List MO} {P : MV → List MO → Prop} (hK : G.K = hd.heap_39 G.w.params) {w : List Int} (hw : ∀ x ∈ w, 0 ≤ x ∧ x < 6) (hl : w.length ≤ 1000)
   (hP : ∀ σ' j, σ <+: σ' → σ.length ≤ j → LI σ' j (toldOf w) → P (.obj j) σ') : OCall G (n + 1 + 1) (.top (.ref 102)) [.str (S (txt (w.map sentRow)))] σ P := by
  have hel := enc_told w hw
  have hnum := toldOf_num w hw
  have htl := toldOf_len w hw
  have hasc : ∀ c ∈ txt (w.map sentRow), c < 128 := by
    intro c hc
    have : ((c : Nat) : Int) ∈ (txt (w.map sentRow)).map (fun c : Nat => (c : Int)) := List.mem_map.mpr ⟨c, hc, rfl⟩
    rw [hel, List.mem_flatMap] at this
    obtain ⟨v, hv, hc'⟩ := this
    rcases hnum v hv with rfl | rfl | rfl | rfl | rfl <;> simp [enc] at hc' <;> lia
  have hll : (txt (w.map sentRow)).length ≤ 100000 := by
    have e := congrArg List.length hel
    rw [List.length_map, List.length_flatMap] at e
    rw [e]
    have : ∀ l : List Int, (l.map fun v => (enc v).length).sum ≤ 2 * l.length := by
      intro l
      induction l with
      | nil => simp
      | cons v l ih =>
        have : (enc v).length ≤ 2 := by unfold enc; split <;> (try split) <;> simp
        simp; lia
    have := this (toldOf w)
    lia
  generalize txt (w.map sentRow) = l at hel hasc hll
  generalize toldOf w = nums at hel hnum htl hP
  refine' OCall.defF (loc := [(Str.ofString "text", .str (S l))]) [Str.ofString "text"] ?ho ?hcd ?hb ?hkx ?hnc ?hco ?hgen ?hkk ?hloc ?hbody
  case ho => rw [hK]; k_is
  case hcd => rw [hK]; k_is
  case hb => intro us hus; obtain ⟨_, rfl⟩ := len1 hus; rfl
  case hkx => decide
  case hnc => decide
  case hco => rfl
  case hgen => rfl
  case hkk => rfl
  case hloc => rfl
  intro cx hsc hcc
  refine WF.cons ?_
  repeat wtm_at "step"
  refine WE.comp turn1 ⟨by decide, by rfl, rfl, by decide⟩ ?_ (by intro _ _; rfl)
  repeat wtm_at "step"
  refine CompFrom.one (Src.ascii hasc) (fun _ _ => trivial) (by simp; lia) (fun _ => true) (fun i => .int (l.getD i 0 : Nat)) ?_ ?_
  · intro cx' i x loc₁ σ₁ hcx hx p₁
    rw [List.getElem?_map, Option.map_eq_some_iff] at hx
    obtain ⟨c, hc, rfl⟩ := hx
    have hsc' : cx'.scope = { kind := .function, names := [(Str.ofString ".0", .local), (Str.ofString "sign", .local), (Str.ofString "ord", .globalImplicit)], isGenerator := false, isCoroutine := false } := by
      rw [hcx]
      show relabelM _ cx = _
      unfold relabelM
      rw [hsc]
      rfl
    clear hsc hcc hcx
    repeat wtm_at "step"
    refine ⟨rfl, List.prefix_rfl, fun _ => ?_⟩
    repeat wtm_at "step"
    refine ⟨?_, by wtm_at "pre"⟩
    rw [List.getD_eq_getElem?_getD, hc]; rfl
  intro σ₁ p₁ e₁
  have e₁' : σ₁[σ.length]? = some (.list ((nums.flatMap enc).map .int)) := by
    rw [e₁, ← hel, List.filter_eq_self.mpr (by simp), List.map_map, List.length_map]
    congr 2
    refine List.ext_getElem (by simp) fun q h1 h2 => ?_
    simp at h1 h2
    simp [h2]
  have hkl : σ.length < σ₁.length := (List.getElem?_eq_some_iff.mp e₁).1
  generalize σ.length = k at e₁' hkl
  clear e₁
  repeat wtm_at "step"
  refine OCall.iter e₁' ?_
  intro σ₂ q p₂ e₂ l₂
  repeat wtm_at "step"
  refine ThenF.next (WF.cons ?_)
  repeat wtm_at "step"
  intro σ₃ f p₃ e₃ l₃
  repeat wtm_at "step"
  refine ThenF.next ?_
  have hql : q < σ₂.length := (List.getElem?_eq_some_iff.mp e₂).1
  have hqk : q ≠ k := by lia
  have hσq : σ.length ≤ q := Nat.le_trans p₁.length_le l₂
  have hfq : f ≠ q := by lia
  have hfk : f ≠ k := by lia
  refine' WF.tryStop (q := q) (kind_of hsc rfl) (name_of hsc rfl) (name_of hsc rfl) (by decide) ?hg ?hv
    (fun m loc σ' => m ≤ nums.length ∧ loc.lookup (Str.ofString "found") = some (.obj f) ∧ loc.lookup (Str.ofString "octets") = some (.obj q) ∧ σ <+: σ' ∧ σ'[k]? = some (.list ((nums.flatMap enc).map .int)) ∧ σ'[q]? = some (.iter k ((nums.take (nums.length - m)).flatMap enc).length) ∧ LI σ' f (nums.take (nums.length - m))) ?htest ?turn ?stop ?fin nums.length ?h0
  case hg => rw [hK]; k_is
  case hv => kernel_rfl
  case h0 => exact ⟨Nat.le_refl _, by with_unfolding_all (wtm_at "look"), by with_unfolding_all (wtm_at "look"), p₁.trans (p₂.trans p₃), pget p₃ (pget p₂ e₁'), by rw [Nat.sub_self]; exact pget p₃ e₂, by rw [Nat.sub_self]; exact e₃⟩
  case htest =>
    intro m loc σ' hJ
    exact WB.of (WE.bool (OT.bool ⟨rfl, rfl⟩)) (by intro _ _; rfl)
  case fin =>
    rintro loc σ' ⟨_, hlf, hlo, hp, hk, hq, hf⟩
    refine ⟨.obj f, hlf, _, rfl, hP _ f ?_ (by lia) ?_⟩
    · obtain ⟨t, rfl⟩ := hp
      rw [List.set_append_right _ _ hσq]
      exact List.prefix_append _ _
    · unfold LI at hf ⊢
      rw [List.getElem?_set_ne (Ne.symm hfq), hf, Nat.sub_zero, List.take_length]
  case stop =>
    rintro loc σ' ⟨_, hlf, hlo, hp, hk, hq, hf⟩
    refine ⟨stops_read hK (kind_of hsc rfl) (name_of hsc rfl) (name_of hsc rfl) (name_of hsc rfl) hlf hlo hf hq hk (by simp) rfl, _, hq⟩
  case turn =>
    rintro m loc σ' ⟨hm, hlf, hlo, hp, hk, hq, hf⟩
    obtain ⟨i, hi⟩ : ∃ i, i = nums.length - (m + 1) := ⟨_, rfl⟩
    have hi1 : nums.length - m = i + 1 := by lia
    rw [← hi] at hq hf
    have hlt : i < nums.length := by lia
    have hv : nums[i]? = some nums[i] := List.getElem?_eq_getElem hlt
    generalize nums[i] = v at hv
    have hnv := hnum v (List.mem_of_getElem? hv)
    unfold LI at hf
    have hfl : (nums.take i).length ≤ 4000 := by rw [List.length_take]; lia
    have key : ∀ {P : MV → List MO → Prop}, Turned q (.iter k (((nums.take (i + 1)).flatMap enc).length)) σ' (P (.int v)) → OCall G (n + 1) (.top (.ref 45)) [.obj q] σ' P := by
      intro P h
      rw [enc_take hv] at h
      rcases hnv with rfl | rfl | rfl | rfl | rfl
      · exact varint_c1 hK hq hk (by have := enc_get (j := 0) hv rfl; exact this) (by decide +kernel) (by decide +kernel) h
      · exact varint_c1 hK hq hk (by have := enc_get (j := 0) hv rfl; exact this) (by decide +kernel) (by decide +kernel) h
      · exact varint_c2 (b := 97) (c := 13) (v := 33) hK hq hk (by have := enc_get (j := 0) hv rfl; exact this) (by have := enc_get (j := 1) hv rfl; exact this) (by decide +kernel) (by decide +kernel) (by decide +kernel) (by decide +kernel) (by decide +kernel) h
      · exact varint_c2 (b := 98) (c := 13) (v := 34) hK hq hk (by have := enc_get (j := 0) hv rfl; exact this) (by have := enc_get (j := 1) hv rfl; exact this) (by decide +kernel) (by decide +kernel) (by decide +kernel) (by decide +kernel) (by decide +kernel) h
      · exact varint_c2 (b := 99) (c := 13) (v := 35) hK hq hk (by have := enc_get (j := 0) hv rfl; exact this) (by have := enc_get (j := 1) hv rfl; exact this) (by decide +kernel) (by decide +kernel) (by decide +kernel) (by decide +kernel) (by decide +kernel) h
    repeat wtm_at "step"
    refine key ?_
    intro σ₄ q₄ b₄ e₄ a₄
    have hf₄ := (b₄ f hfq).trans hf
    repeat wtm_at "step"
    · simp; lia
    intro σ₅ q₅ b₅ e₅ a₅
    repeat wtm_at "step"
    refine ⟨rfl, rfl, by lia, hlf, hlo, ?_, (b₅ k (Ne.symm hfk)).trans ((b₄ k (Ne.symm hqk)).trans hk), ?_, ?_⟩
    · exact a₅ _ (a₄ _ hp hσq) (by lia)
    · rw [hi1]; exact (b₅ q (Ne.symm hfq)).trans e₄
    · rw [hi1]; unfold LI; rw [e₅, List.take_succ, hv, List.map_append]; rfl

noncomputable def fr128 (p : Nat) : UInt64 := Float64.ofFrac false p 128
noncomputable def fHalf : UInt64 := 4602678819172646912
noncomputable def intF (x : UInt64) : Option Int := match Float64.decode x with
  | .fin sg m e => some (Float64.truncOf sg m e)
  | _ => none
noncomputable def near (x : UInt64) (i : Int) : Bool := !(Float64.cmpInt (Float64.mul (Float64.abs (Float64.sub x (Float64.ofInt i))) (Float64.ofInt 1048576)) 1 == some Ordering.gt)
noncomputable def hue3 (h : UInt64) : UInt64 := Float64.mul (Float64.ofInt 3) h
noncomputable def spr128 (s v : UInt64) : UInt64 := Float64.mul (Float64.mul (Float64.ofInt 128) s) v
noncomputable def fh (h : UInt64) : UInt64 := (Float64.divmod (Float64.div h f6) f1).snd

noncomputable def pairB (M m : Nat) : Bool := ltF (fr128 m) (fr128 M) && !ltF (fr128 M) (fr128 m) && !eqF (fr128 m) (fr128 M) && (Float64.sub (fr128 M) (fr128 m) == fr128 (M - m)) &&
  (intF (Float64.add (spr128 (Float64.div (fr128 (M - m)) (fr128 M)) (fr128 M)) fHalf) == some ((M - m : Nat) : Int)) && near (spr128 (Float64.div (fr128 (M - m)) (fr128 M)) (fr128 M)) (M - m : Nat)
noncomputable def selfB (M : Nat) : Bool := !ltF (fr128 M) (fr128 M) && eqF (fr128 M) (fr128 M) && (Float64.sub (fr128 M) (fr128 M) == f0) && !Float64.isInf (fr128 M) && (M == 0 || (!Float64.isZero (fr128 M) && (Float64.div (fr128 M) (fr128 M) == f1) && (Float64.div f0 (fr128 M) == f0))) &&
  (intF (Float64.add (spr128 f0 (fr128 M)) fHalf) == some 0) && near (spr128 f0 (fr128 M)) 0
noncomputable def hueB (h : UInt64) (i : Nat) : Bool := intF (Float64.add (hue3 (fh h)) fHalf) == some (i : Int) && near (hue3 (fh h)) i
theorem hue_ok : (intF (Float64.add (hue3 f0) fHalf) == some 0 && near (hue3 f0) 0 && hueB f0 0 && hueB f2 1 && hueB f4 2 && (Float64.sub f1 f1 == f0) && (Float64.sub (Float64.add f2 f1) f1 == f2) && (Float64.sub (Float64.add f4 f1) f1 == f4)) = true := by decide +kernel
theorem self_ok : (List.range 49).all selfB = true := by decide +kernel
noncomputable def rowB (M : Nat) : Bool := (List.range M).all (pairB M)
theorem p_0 : ((List.range 16).drop 0).all rowB = true := by decide +kernel
theorem p_1 : ((List.range 24).drop 16).all rowB = true := by decide +kernel
theorem p_2 : ((List.range 30).drop 24).all rowB = true := by decide +kernel
theorem p_3 : ((List.range 36).drop 30).all rowB = true := by decide +kernel
theorem p_4 : ((List.range 40).drop 36).all rowB = true := by decide +kernel
theorem p_5 : ((List.range 44).drop 40).all rowB = true := by decide +kernel
theorem p_6 : ((List.range 47).drop 44).all rowB = true := by decide +kernel
theorem p_7 : ((List.range 49).drop 47).all rowB = true := by decide +kernel
theorem rows_ok {M : Nat} (h : M < 49) : rowB M = true := by
  have key : ∀ a b, ((List.range b).drop a).all rowB = true → a ≤ M → M < b → rowB M = true := by
    intro a b hb h1 h2
    refine List.all_eq_true.mp hb M ?_
    rw [List.mem_drop_iff_getElem]
    exact ⟨M - a, by simp; lia, by simp; lia⟩
  by_cases h0 : M < 16
  · exact key _ _ p_0 (by lia) h0
  by_cases h1 : M < 24
  · exact key _ _ p_1 (by lia) h1
  by_cases h2 : M < 30
  · exact key _ _ p_2 (by lia) h2
  by_cases h3 : M < 36
  · exact key _ _ p_3 (by lia) h3
  by_cases h4 : M < 40
  · exact key _ _ p_4 (by lia) h4
  by_cases h5 : M < 44
  · exact key _ _ p_5 (by lia) h5
  by_cases h6 : M < 47
  · exact key _ _ p_6 (by lia) h6
  by_cases h7 : M < 49
  · exact key _ _ p_7 (by lia) h7
  lia

theorem pair_ok {m M : Nat} (h : m < M) (hM : M < 49) : pairB M m = true := List.all_eq_true.mp (rows_ok hM) m (List.mem_range.mpr h)
theorem self_ok' {M : Nat} (hM : M < 49) : selfB M = true := List.all_eq_true.mp self_ok M (List.mem_range.mpr hM)

structure Colour (p0 p1 p2 : Nat) (cor spr : Nat) : Prop where
  z : eqF (min3 (fr128 p0) (fr128 p1) (fr128 p2)) (max3 (fr128 p0) (fr128 p1) (fr128 p2)) = false → Float64.isZero (max3 (fr128 p0) (fr128 p1) (fr128 p2)) = false ∧ Float64.isZero (Float64.sub (max3 (fr128 p0) (fr128 p1) (fr128 p2)) (min3 (fr128 p0) (fr128 p1) (fr128 p2))) = false
  hc : intF (Float64.add (hue3 (hsv (fr128 p0) (fr128 p1) (fr128 p2)).1) fHalf) = some (cor : Int)
  hs : intF (Float64.add (spr128 (hsv (fr128 p0) (fr128 p1) (fr128 p2)).2.1 (hsv (fr128 p0) (fr128 p1) (fr128 p2)).2.2) fHalf) = some (spr : Int)
  nc : near (hue3 (hsv (fr128 p0) (fr128 p1) (fr128 p2)).1) cor = true
  ns : near (spr128 (hsv (fr128 p0) (fr128 p1) (fr128 p2)).2.1 (hsv (fr128 p0) (fr128 p1) (fr128 p2)).2.2) spr = true
  v : eqF (hsv (fr128 p0) (fr128 p1) (fr128 p2)).2.2 (Flt.maxOfBits [fr128 p0, fr128 p1, fr128 p2]) = true

theorem hue_all : intF (Float64.add (hue3 f0) fHalf) = some 0 ∧ near (hue3 f0) 0 = true ∧ hueB f0 0 = true ∧ hueB f2 1 = true ∧ hueB f4 2 = true ∧ Float64.sub f1 f1 = f0 ∧ Float64.sub (Float64.add f2 f1) f1 = f2 ∧ Float64.sub (Float64.add f4 f1) f1 = f4 := by
  have h := hue_ok
  simp only [Bool.and_eq_true, beq_iff_eq] at h
  obtain ⟨⟨⟨⟨⟨⟨⟨a, b⟩, c⟩, d⟩, e⟩, f⟩, g⟩, i⟩ := h
  exact ⟨a, b, c, d, e, f, g, i⟩

theorem colour_eq {M : Nat} (hM : M < 49) : Colour M M M 0 0 := by
  have hs := self_ok' hM
  unfold selfB at hs
  simp only [Bool.and_eq_true, Bool.not_eq_true', beq_iff_eq] at hs
  obtain ⟨⟨⟨⟨⟨⟨s1, s2⟩, s3⟩, s4⟩, s5⟩, s6⟩, s7⟩ := hs
  obtain ⟨u1, u2, -, -, -, -, -, -⟩ := hue_all
  have hmax : max3 (fr128 M) (fr128 M) (fr128 M) = fr128 M := by unfold max3; simp [s1]
  have hmin : min3 (fr128 M) (fr128 M) (fr128 M) = fr128 M := by unfold min3; simp [s1]
  have hh : hsv (fr128 M) (fr128 M) (fr128 M) = (f0, f0, fr128 M) := by
    rw [hsv_t (by rw [hmax, hmin]; exact s2), hmax]
  have hb : Flt.maxOfBits [fr128 M, fr128 M, fr128 M] = fr128 M := by
    show Flt.bestBits Flt.gtB (fr128 M) [fr128 M, fr128 M] = _
    unfold Flt.bestBits
    rw [show Flt.gtB (fr128 M) (fr128 M) = false from s1]
    unfold Flt.bestBits
    simp [show Flt.gtB (fr128 M) (fr128 M) = false from s1, Flt.bestBits]
  refine ⟨fun h => ?_, ?_, ?_, ?_, ?_, ?_⟩
  · rw [hmax, hmin, s2] at h; cases h
  all_goals rw [hh]
  · exact u1
  · exact s6
  · exact u2
  · exact s7
  · rw [hb]; exact s2

theorem best3 (a b c : UInt64) : Flt.maxOfBits [a, b, c] = max3 a b c := rfl

theorem colour_pos {m M : Nat} (h : m < M) (hM : M < 49) : Colour M m m 0 (M - m) ∧ Colour m M m 1 (M - m) ∧ Colour m m M 2 (M - m) := by
  have hs := self_ok' hM
  have hsm := self_ok' (show m < 49 by lia)
  have hsd := self_ok' (show M - m < 49 by lia)
  have hp := pair_ok h hM
  obtain ⟨u1, u2, u3, u4, u5, u6, u7, u8⟩ := hue_all
  have hd0 : ((M - m : Nat) == 0) = false := by rw [beq_eq_false_iff_ne]; lia
  have hM0 : ((M : Nat) == 0) = false := by rw [beq_eq_false_iff_ne]; lia
  unfold hueB at u3 u4 u5
  unfold selfB at hs hsm hsd
  unfold pairB at hp
  rw [hd0] at hsd
  rw [hM0] at hs
  simp only [Bool.and_eq_true, Bool.not_eq_true', beq_iff_eq, Bool.false_or] at hs hsm hsd hp u3 u4 u5
  obtain ⟨⟨⟨⟨⟨⟨s1, s2⟩, s3⟩, s4⟩, ⟨⟨s5, s6⟩, s7⟩⟩, s8⟩, s9⟩ := hs
  obtain ⟨⟨⟨⟨⟨⟨d1, d2⟩, d3⟩, d4⟩, ⟨⟨d5, d6⟩, d7⟩⟩, d8⟩, d9⟩ := hsd
  obtain ⟨⟨⟨⟨⟨⟨m1, m2⟩, m3⟩, m4⟩, m5⟩, m6⟩, m7⟩ := hsm
  obtain ⟨⟨⟨⟨⟨q1, q2⟩, q3⟩, q4⟩, q5⟩, q6⟩ := hp
  have heq : ∀ x, eqF x x = true → eqF x x = true := fun _ h => h
  have hMm : eqF (fr128 m) (fr128 M) = false := q3
  generalize hfM : fr128 M = a at *
  generalize hfm : fr128 m = b at *
  generalize hfd : fr128 (M - m) = d at *
  have hue1 : hueOf a b b a d = f0 := by
    unfold hueOf
    simp only [s3, q4, d6, d7, s2, if_true, u6]
  have hue2 : hueOf b a b a d = f2 := by
    unfold hueOf
    simp only [s3, q4, d6, d7, s2, hMm, if_true, Bool.false_eq_true, if_false, u7]
  have hue3' : hueOf b b a a d = f4 := by
    unfold hueOf
    simp only [s3, q4, d6, d7, s2, hMm, if_true, Bool.false_eq_true, if_false, u8]
  have x1 : max3 a b b = a := by unfold max3; simp [q2]
  have x2 : max3 b a b = a := by unfold max3; simp [q1, q2]
  have x3 : max3 b b a = a := by unfold max3; simp [q1, m1]
  have n1 : min3 a b b = b := by unfold min3; simp [q1, m1]
  have n2 : min3 b a b = b := by unfold min3; simp [q2, m1]
  have n3 : min3 b b a = b := by unfold min3; simp [q2, m1]
  have fin : ∀ (p0 p1 p2 : Nat) (x y z h : UInt64) (i : Nat), fr128 p0 = x → fr128 p1 = y → fr128 p2 = z → max3 x y z = a → min3 x y z = b → hueOf x y z a d = h → intF (Float64.add (hue3 (fh h)) fHalf) = some (i : Int) → near (hue3 (fh h)) i = true → Colour p0 p1 p2 i (M - m) := by
    intro p0 p1 p2 x y z h i e0 e1 e2 hx hn hh h1 h2
    have hv : hsv x y z = (fh h, Float64.div d a, a) := by
      rw [hsv_f (by rw [hx, hn]; exact hMm), hx, hn, q4, hh]
      rfl
    refine ⟨?_, ?_, ?_, ?_, ?_, ?_⟩ <;> rw [e0, e1, e2]
    · intro _
      rw [hx, hn, q4]
      exact ⟨s5, d5⟩
    · rw [hv]; exact h1
    · rw [hv]; exact q5
    · rw [hv]; exact h2
    · rw [hv]; exact q6
    · rw [hv, best3, hx]; exact s2
  exact ⟨fin M m m a b b f0 0 hfM hfm hfm x1 n1 hue1 u3.1 u3.2, fin m M m b a b f2 1 hfm hfM hfm x2 n2 hue2 u4.1 u4.2, fin m m M b b a f4 2 hfm hfm hfM x3 n3 hue3' u5.1 u5.2⟩

theorem fr_inf {p : Nat} (h : p < 49) : Float64.isInf (fr128 p) = false := by
  have hs := self_ok' h
  unfold selfB at hs
  simp only [Bool.and_eq_true, Bool.not_eq_true', beq_iff_eq] at hs
  exact hs.1.1.1.2

noncomputable def quadN (left k : Nat) : Nat := if k < left then k else k + 1
noncomputable def pr (left k : Nat) : (Nat × Nat) × (Nat × Nat) := match k with
  | 0 => ((quadN left 0, quadN left 1), (quadN left 2, quadN left 3))
  | 1 => ((quadN left 0, quadN left 2), (quadN left 1, quadN left 3))
  | _ => ((quadN left 0, quadN left 3), (quadN left 1, quadN left 2))
noncomputable def sumK (c : Nat → Nat → Nat) (left k : Nat) : Nat := c (pr left k).1.1 (pr left k).1.2 + c (pr left k).2.1 (pr left k).2.2
noncomputable def Four (p0 p1 p2 : Nat) : Prop := p0 < 49 ∧ p1 < 49 ∧ p2 < 49 ∧ ((p1 = p2 ∧ p1 ≤ p0) ∨ (p0 = p2 ∧ p0 ≤ p1) ∨ (p0 = p1 ∧ p0 ≤ p2))
noncomputable def corN (p0 p1 p2 : Nat) : Nat := if p1 < p0 then 0 else if p0 < p1 then 1 else if p0 < p2 then 2 else 0
noncomputable def sprN (p0 p1 p2 : Nat) : Nat := max p0 (max p1 p2) - min p0 (min p1 p2)
section said
variable {p q : Nat}
theorem cor0 (h : q ≤ p) : corN p q q = 0 := by
  rcases Nat.lt_or_ge q p with h1 | h1
  · exact if_pos h1
  · cases Nat.le_antisymm h h1
    exact (if_neg (Nat.lt_irrefl _)).trans ((if_neg (Nat.lt_irrefl _)).trans (if_neg (Nat.lt_irrefl _)))
theorem cor1 (h : p < q) : corN p q p = 1 := (if_neg (Nat.lt_asymm h)).trans (if_pos h)
theorem cor2 (h : p < q) : corN p p q = 2 := (if_neg (Nat.lt_irrefl _)).trans ((if_neg (Nat.lt_irrefl _)).trans (if_pos h))
theorem spr0 (h : q ≤ p) : sprN p q q = p - q := by unfold sprN; rw [Nat.max_self, Nat.min_self, Nat.max_eq_left h, Nat.min_eq_right h]
theorem spr1 (h : p ≤ q) : sprN p q p = q - p := by unfold sprN; rw [Nat.max_eq_left h, Nat.min_eq_right h, Nat.max_eq_right h, Nat.min_self]
theorem spr2 (h : p ≤ q) : sprN p p q = q - p := by unfold sprN; rw [Nat.max_eq_right h, Nat.max_eq_right h, Nat.min_eq_left h, Nat.min_self]
end said
theorem four_colour {p0 p1 p2 : Nat} (h : Four p0 p1 p2) : Colour p0 p1 p2 (corN p0 p1 p2) (sprN p0 p1 p2) := by
  have eq : ∀ {p : Nat}, p < 49 → Colour p p p (corN p p p) (sprN p p p) := fun {p} h => by
    rw [cor0 (Nat.le_refl p), spr0 (Nat.le_refl p), Nat.sub_self]; exact colour_eq h
  obtain ⟨h0, h1, h2, h⟩ := h
  rcases h with ⟨rfl, h⟩ | ⟨rfl, h⟩ | ⟨rfl, h⟩ <;> rcases Nat.lt_or_eq_of_le h with h | rfl
  · rw [cor0 (Nat.le_of_lt h), spr0 (Nat.le_of_lt h)]; exact (colour_pos h h0).1
  · exact eq h0
  · rw [cor1 h, spr1 (Nat.le_of_lt h)]; exact (colour_pos h h1).2.1
  · exact eq h0
  · rw [cor2 h, spr2 (Nat.le_of_lt h)]; exact (colour_pos h h2).2.2
  · exact eq h0

noncomputable def corL (c : Nat → Nat → Nat) (left : Nat) : Nat := corN (sumK c left 0) (sumK c left 1) (sumK c left 2)
noncomputable def sprL (c : Nat → Nat → Nat) (left : Nat) : Nat := sprN (sumK c left 0) (sumK c left 1) (sumK c left 2)
noncomputable def saidN (c : Nat → Nat → Nat) (left k : Nat) : Nat := if k = corL c left then sprL c left else 0
noncomputable def updD (s : Int) (D : List (List Int)) (p : Nat × Nat) : List (List Int) := D.set p.1 ((D.getD p.1 []).set p.2 (min ((D.getD p.1 []).getD p.2 0) s))
noncomputable def prs (left k : Nat) : List (Nat × Nat) := [(pr left k).1, (pr left k).2]
noncomputable def turnK (c : Nat → Nat → Nat) (left : Nat) (D : List (List Int)) (k : Nat) : List (List Int) := (prs left k).foldl (updD (saidN c left k)) D
noncomputable def turnLeft (c : Nat → Nat → Nat) (D : List (List Int)) (left : Nat) : List (List Int) := (List.range 3).foldl (turnK c left) D
noncomputable def leastOf (c : Nat → Nat → Nat) (i : Nat) : List (List Int) := (List.range i).foldl (turnLeft c) (List.replicate 5 (List.replicate 5 128))
noncomputable def coloursOf (c : Nat → Nat → Nat) : List Int := (List.range 5).flatMap fun i => (List.range (4 - i)).map fun j => ((leastOf c 5).getD i []).getD (i + 1 + j) 0

theorem quad_filter {left : Nat} (h : left < 5) : (List.range 5).filter (fun q => decide (q ≠ left)) = [quadN left 0, quadN left 1, quadN left 2, quadN left 3] := by
  have : left = 0 ∨ left = 1 ∨ left = 2 ∨ left = 3 ∨ left = 4 := by lia
  rcases this with rfl | rfl | rfl | rfl | rfl <;> decide
noncomputable def Sq (D : List (List Int)) : Prop := D.length = 5 ∧ ∀ r ∈ D, r.length = 5
theorem updD_sq {s : Int} {D : List (List Int)} (h : Sq D) (p : Nat × Nat) (hp : p.1 < 5) : Sq (updD s D p) := by
  obtain ⟨h1, h2⟩ := h
  unfold updD
  refine ⟨by simp [h1], fun r hr => ?_⟩
  rcases List.mem_or_eq_of_mem_set hr with h | rfl
  · exact h2 r h
  · rw [List.length_set]
    refine h2 _ ?_
    rw [List.getD_eq_getElem?_getD, List.getElem?_eq_getElem (by lia)]
    exact List.getElem_mem _
theorem quadN_lt {left k : Nat} (hk : k < 4) : quadN left k < 5 := by unfold quadN; split <;> lia
theorem quadN_mono {left k k' : Nat} (h : k < k') : quadN left k < quadN left k' := by unfold quadN; split <;> split <;> lia
theorem pr_lt (left k : Nat) : (pr left k).1.1 < (pr left k).1.2 ∧ (pr left k).1.2 < 5 ∧ (pr left k).2.1 < (pr left k).2.2 ∧ (pr left k).2.2 < 5 := by
  unfold pr
  split <;> exact ⟨quadN_mono (by lia), quadN_lt (by lia), quadN_mono (by lia), quadN_lt (by lia)⟩

theorem intF_some {x : UInt64} {i : Int} (h : intF x = some i) : ∃ sg m e, Float64.decode x = .fin sg m e ∧ Float64.truncOf sg m e = i := by
  unfold intF at h
  split at h
  · next sg m e hd => exact ⟨sg, m, e, hd, by simpa using h⟩
  · cases h
theorem OCall.int' {G : Gl} {n : Nat} {σ : List MO} {P : MV → List MO → Prop} {x : UInt64} {i : Int} (h : intF x = some i) (hP : P (.int i) σ) : OCall G n (.top (.type "int")) [.flt x] σ P := by
  obtain ⟨sg, m, e, hd, rfl⟩ := intF_some h
  exact OCall.int hd hP
theorem near_gt {x : UInt64} {i : Int} (h : near x i = true) : (Float64.cmpInt (Float64.mul (Float64.abs (Float64.sub x (Float64.ofInt i))) (Float64.ofInt 1048576)) 1 == some Ordering.gt) = false := by
  unfold near at h
  simpa using h
theorem corN_lt (p0 p1 p2 : Nat) : corN p0 p1 p2 < 3 := by unfold corN; split <;> (try split) <;> (try split) <;> lia

structure ColF (fh fs fv a b c : UInt64) (cor spr : Nat) : Prop where
  hc : intF (Float64.add (Float64.mul (Float64.ofInt 3) fh) 4602678819172646912) = some (cor : Int)
  hs : intF (Float64.add (Float64.mul (Float64.mul (Float64.ofInt 128) fs) fv) 4602678819172646912) = some (spr : Int)
  nc : near (Float64.mul (Float64.ofInt 3) fh) cor = true
  ns : near (Float64.mul (Float64.mul (Float64.ofInt 128) fs) fv) spr = true
  v : (Float64.cmp fv (Flt.maxOfBits [a, b, c]) != some Ordering.eq) = false
theorem Colour.toF {p0 p1 p2 cor spr : Nat} (h : Colour p0 p1 p2 cor spr) : ColF (hsv (fr128 p0) (fr128 p1) (fr128 p2)).1 (hsv (fr128 p0) (fr128 p1) (fr128 p2)).2.1 (hsv (fr128 p0) (fr128 p1) (fr128 p2)).2.2 (fr128 p0) (fr128 p1) (fr128 p2) cor spr :=
  ⟨h.hc, h.hs, h.nc, h.ns, by have := h.v; unfold eqF at this; rw [bne, this]; rfl⟩

theorem WE.ifeV {G : Gl} {n : Nat} {cx : Cx} {loc : Loc} {σ : List MO} {P : MV → List MO → Prop} {t a b : Expr} {pos : Pos} {c₀ : Bool} {v : MV} (ht : WB G n cx t loc σ fun c σ₁ => c = c₀ ∧ σ₁ = σ) (ha : c₀ = true → WE G n cx a loc σ fun v' σ' => v' = v ∧ σ' = σ) (hb : c₀ = false → WE G n cx b loc σ fun v' σ' => v' = v ∧ σ' = σ) (h : P v σ) : WE G n cx (.IfExp t a b pos) loc σ P := by
  refine WE.ife (WB.mono ht ?_)
  rintro c σ₁ ⟨rfl, rfl⟩
  exact ⟨fun e => WE.mono (ha e) (by rintro _ _ ⟨rfl, rfl⟩; exact h), fun e => WE.mono (hb e) (by rintro _ _ ⟨rfl, rfl⟩; exact h)⟩
theorem foldl_sq {s : Int} : ∀ (ps : List (Nat × Nat)) {D : List (List Int)}, Sq D → (∀ p ∈ ps, p.1 < 5) → Sq (ps.foldl (updD s) D)
  | [], _, h, _ => h
  | p :: ps, D, h, hp => foldl_sq ps (updD_sq h p (hp p (by simp))) fun q hq => hp q (by simp [hq])
theorem prs_lt (left k : Nat) : ∀ p ∈ prs left k, p.1 < p.2 ∧ p.2 < 5 := by
  intro p hp
  obtain ⟨h1, h2, h3, h4⟩ := pr_lt left k
  unfold prs at hp
  rcases List.mem_cons.mp hp with rfl | hp
  · exact ⟨h1, h2⟩
  · rcases List.mem_cons.mp hp with rfl | hp
    · exact ⟨h3, h4⟩
    · cases hp
theorem turnK_sq {c : Nat → Nat → Nat} {left : Nat} {D : List (List Int)} (h : Sq D) (k : Nat) : Sq (turnK c left D k) :=
  foldl_sq _ h fun p hp => by have := prs_lt left k p hp; lia
theorem foldK_sq {c : Nat → Nat → Nat} {left : Nat} : ∀ (l : List Nat) {D : List (List Int)}, Sq D → Sq (l.foldl (turnK c left) D)
  | [], _, h => h
  | k :: l, D, h => foldK_sq l (turnK_sq h k)
theorem least_sq (c : Nat → Nat → Nat) (i : Nat) : Sq (leastOf c i) := by
  unfold leastOf
  have : ∀ (l : List Nat) {D : List (List Int)}, Sq D → Sq (l.foldl (turnLeft c) D) := by
    intro l
    induction l with
    | nil => intro D h; exact h
    | cons k l ih => intro D h; exact ih (foldK_sq _ h)
  exact this _ ⟨by decide, by decide⟩

structure RowIs (c : Nat → Nat → Nat) (i : Nat) (row : List Int) : Prop where
  e : row = (leastOf c 5).getD i []
theorem colours_c {G : Gl} {n : Nat} {σ : List MO} {P : MV → List MO → Prop} (hK : G.K = hd.heap_39 G.w.params) {k₀ : Nat} {ks : List Nat} {R : List (List Int)} {cc : Nat → Nat → Nat} (h₀ : σ[k₀]? = some (.list (ks.map .obj))) (hR : LIs σ ks R) (hsq : Sq R)
   (hcm : ∀ i j, i < j → j < 5 → (R.getD i []).getD j 0 = (cc i j : Nat)) (h4 : ∀ left, left < 5 → Four (sumK cc left 0) (sumK cc left 1) (sumK cc left 2))
   (hP : ∀ σ' j, σ <+: σ' → LI σ' j (coloursOf cc) → P (.obj j) σ') : OCall G (n + 1 + 1) (.top (.ref 121)) [.obj k₀] σ P := by
  refine' OCall.defC (loc := []) (cn := [Str.ofString "left", Str.ofString "least", Str.ofString "common"]) (cs := [.cell none, .cell none, .cell (some (.obj k₀))]) [Str.ofString "common"] ?ho ?hcd ?hb ?hkx ?hnc ?hnd ?hco ?hgen ?hkk ?hloc ?hcs ?hbody
  case ho => rw [hK]; k_is
  case hcd => rw [hK]; k_is
  case hb => intro us hus; obtain ⟨_, rfl⟩ := len1 hus; rfl
  case hkx => decide
  case hnc => rfl
  case hnd => decide
  case hco => rfl
  case hgen => rfl
  case hkk => rfl
  case hloc => rfl
  case hcs => rfl
  intro cx hsc hcc
  replace hcc : cx.cells = [(Str.ofString "left", σ.length), (Str.ofString "least", σ.length + 1), (Str.ofString "common", σ.length + 1 + 1)] := hcc
  generalize hc : σ.length = c at *
  obtain ⟨σ₀, hσ₀, cl, ce, cm⟩ : ∃ σ₀ : List MO, σ₀ = σ ++ [MO.cell none, MO.cell none, MO.cell (some (MV.obj k₀))] ∧ σ₀[c]? = some (.cell none) ∧ σ₀[c + 1]? = some (.cell none) ∧ σ₀[c + 1 + 1]? = some (.cell (some (.obj k₀))) := by
    refine ⟨_, rfl, ?_, ?_, ?_⟩
    · rw [List.getElem?_append_right (by lia), show c - σ.length = 0 by lia]; rfl
    · rw [List.getElem?_append_right (by lia), show c + 1 - σ.length = 1 by lia]; rfl
    · rw [List.getElem?_append_right (by lia), show c + 1 + 1 - σ.length = 2 by lia]; rfl
  have hlen₀ : σ₀.length = c + 3 := by rw [hσ₀]; simp [hc]
  have p₀ : σ <+: σ₀ := by rw [hσ₀]; exact List.prefix_append _ _
  rw [← hσ₀]
  clear hσ₀
  refine WX.cons (WS.assignA ?_ (noswap_cell (name_of hsc rfl)))
  refine WE.comp turn1 ⟨by decide, by rfl, rfl, by decide⟩ ?_ (by intro _ _; rfl)
  repeat wtm_at "step"
  intro σ₁ k₁ p₁ e₁ l₁
  refine CompFrom.objs (Src.rng e₁ (by decide) (by decide) (by decide) (by decide)) (fun _ _ => trivial) (by rw [rngL_length]; decide) (fun _ => List.replicate 5 128) ?_ ?_
  · intro cx' i x loc σ' hcx hx hp hcells hlen
    have hsc' : cx'.scope = { kind := .function, names := [(Str.ofString ".0", .local), (Str.ofString "k", .local)], isGenerator := false, isCoroutine := false } := by
      rw [hcx]
      show relabelM _ cx = _
      unfold relabelM
      rw [hsc]
      rfl
    clear hsc hcc hcx
    repeat wtm_at "step"
    intro σ₂ k₂ p₂ e₂ l₂
    repeat wtm_at "step"
    refine OB.mulList' (by wtm_at "get") (by decide) (by decide) (by decide) ?_
    intro σ₃ k₃ p₃ e₃ l₃
    exact ⟨k₃, rfl, hp.trans (p₂.trans p₃), KeptC.of_pre (p₂.trans p₃), hcells.pre (p₂.trans p₃), Nat.le_trans p₂.length_le l₃, e₃⟩
  intro σ₂ ls p₂ e₂ hls hnd hgt
  have hlsl : LIs σ₂ ls (leastOf cc 0) := hls
  generalize hkl : σ₁.length = kl at *
  have hkl' : c + 3 ≤ kl := by rw [← hkl, ← hlen₀]; exact p₁.length_le
  have hltl := hlsl.lt
  have hll : ls.length = 5 := by rw [hlsl.length]; rfl
  clear hls
  repeat wtm_at "step"
  intro σ₃ q₃ b₃ e₃ a₃
  repeat wtm_at "step"
  refine WS.for_ ?_
  repeat wtm_at "step"
  intro σ₄ k₄ p₄ e₄ l₄
  have hrows : ∀ {τ τ' : List MO} {D : List (List Int)}, LIs τ ls D → (∀ j, c + 3 ≤ j → j < τ.length → τ'[j]? = τ[j]?) → LIs τ' ls D := fun h k => h.mono fun m hm ns hl => by
    have h1 := hgt m hm
    have h2 := (List.getElem?_eq_some_iff.mp hl).1
    unfold LI at hl ⊢
    rw [k m (by lia) h2]; exact hl
  refine ⟨_, _, Src.rng e₄ (by decide) (by decide) (by decide) (by decide), trivial, ?_⟩
  refine forChain_inv (fun left loc σ' => σ <+: σ' ∧ σ'[c + 1 + 1]? = some (.cell (some (.obj k₀))) ∧ σ'[c + 1]? = some (.cell (some (.obj kl))) ∧ (∃ v, σ'[c]? = some (.cell v)) ∧ σ'[kl]? = some (.list (ls.map .obj)) ∧ LIs σ' ls (leastOf cc left)) ?_ ?_ ?_ ?_
  · rintro left x loc σ₅ hx hok ⟨p₅, hm₅, he₅, ⟨vl, hl₅⟩, hkl₅, hls₅⟩
    obtain ⟨hi, rfl⟩ := rngL_get hx
    have hi5 : left < 5 := by lia
    repeat wtm_at "step"
    intro σ₆ q₆ b₆ e₆ a₆
    have pσ₆ := a₆ _ p₅ (by lia)
    have hm₆ := (b₆ _ (show c + 1 + 1 ≠ c by lia)).trans hm₅
    have he₆ := (b₆ _ (show c + 1 ≠ c by lia)).trans he₅
    have hkl₆ := (b₆ _ (show kl ≠ c by lia)).trans hkl₅
    have hls₆ := hrows hls₅ fun j h1 _ => b₆ j (by lia)
    clear b₆ a₆ hm₅ he₅ hkl₅ hls₅ hl₅ hok
    rw [show (0 + (left : Int)) = (left : Int) by lia] at e₆
    repeat wtm_at "step"
    refine WS.assignTup ?_ (by intro _; rfl) (by intro _; rfl)
    refine WE.comp turn1 ⟨by decide, by rw [hcc]; rfl, rfl, by decide⟩ ?_ (by intro _ _; rfl)
    repeat wtm_at "step"
    intro σ₇ k₇ p₇ e₇ l₇
    refine CompFrom.one (Src.rng e₇ (by decide) (by decide) (by decide) (by decide)) (fun _ _ => trivial) (by rw [rngL_length]; decide) (fun q => decide (q ≠ left)) (fun q => .int q) ?_ ?_
    · intro cx' q x loc₁ σ' hcx hx hp
      obtain ⟨hq, rfl⟩ := rngL_get hx
      have hsc' : cx'.scope = { kind := .function, names := [(Str.ofString ".0", .local), (Str.ofString "k", .local), (Str.ofString "left", .cell)], isGenerator := false, isCoroutine := false } := by
        rw [hcx]
        show relabelM _ cx = _
        unfold relabelM
        rw [hsc]
        rfl
      have hcc' : cx'.cells = [(Str.ofString "left", c)] := by
        rw [hcx]
        show idx (cellNames _) _ ++ freeIdx cx.cells _ [] = _
        rw [hcc]
        rfl
      clear hsc hcc hcx
      have f1 := pget (p₇.trans hp) e₆
      repeat wtm_at "step"
      show WB G (n + 1) cx' _ _ _ _
      repeat wtm_at "step"
      refine ⟨?_, by wtm_at "pre", fun _ => ?_⟩
      · rw [bne, Bool.eq_iff_iff]; simp; lia
      repeat wtm_at "step"
      exact ⟨by simp, by wtm_at "pre"⟩
    intro σ₈ p₈ e₈
    rw [rngL_length, show (5 - 0 : Int).toNat = 5 from rfl, quad_filter hi5] at e₈
    refine WA.tup rfl ⟨_, _, Src.list e₈, e₈, ⟨_, rfl, .inl ⟨_, e₈⟩⟩, rfl, ?_⟩
    simp only [List.map_cons, List.map_nil, WAs]
    repeat wtm_at "step"
    intro τ₁ u₀ r₁ d₁ m₁
    repeat wtm_at "step"
    intro τ₂ v₀ r₂ d₂ m₂
    repeat wtm_at "step"
    intro τ₃ T₀ r₃ d₃ m₃
    repeat wtm_at "step"
    intro τ₄ u₁ r₄ d₄ m₄
    repeat wtm_at "step"
    intro τ₅ v₁ r₅ d₅ m₅
    repeat wtm_at "step"
    intro τ₆ T₁ r₆ d₆ m₆
    repeat wtm_at "step"
    intro τ₇ u₂ r₇ d₇ m₇
    repeat wtm_at "step"
    intro τ₈ v₂ r₈ d₈ m₈
    repeat wtm_at "step"
    intro τ₉ T₂ r₉ d₉ m₉
    repeat wtm_at "step"
    intro τ kp r₁₀ d₁₀ m₁₀
    repeat wtm_at "step"
    have Hp : ∀ k, k < 3 → ∃ T u v, ([.obj T₀, .obj T₁, .obj T₂] : List MV)[k]? = some (.obj T) ∧ τ[T]? = some (.tup [.obj u, .obj v]) ∧ τ[u]? = some (.tup [.int (pr left k).1.1, .int (pr left k).1.2]) ∧ τ[v]? = some (.tup [.int (pr left k).2.1, .int (pr left k).2.2]) := by
      intro k hk
      have : k = 0 ∨ k = 1 ∨ k = 2 := by lia
      rcases this with rfl | rfl | rfl
      · exact ⟨T₀, u₀, v₀, rfl, by wtm_at "get", by wtm_at "get", by wtm_at "get"⟩
      · exact ⟨T₁, u₁, v₁, rfl, by wtm_at "get", by wtm_at "get", by wtm_at "get"⟩
      · exact ⟨T₂, u₂, v₂, rfl, by wtm_at "get", by wtm_at "get", by wtm_at "get"⟩
    have pτ : σ₆ <+: τ := by wtm_at "pre"
    have hτl : σ₆.length ≤ kp := by have := r₁.length_le; have := r₂.length_le; have := r₃.length_le; have := r₄.length_le; have := r₅.length_le; have := r₆.length_le; have := r₇.length_le; have := r₈.length_le; have := r₉.length_le; have := p₇.length_le; have := p₈.length_le; lia
    obtain ⟨tl, htl, htle⟩ : ∃ tl : List MV, tl.length = 3 ∧ tl = [.obj T₀, .obj T₁, .obj T₂] := ⟨_, rfl, rfl⟩
    rw [← htle] at Hp d₁₀
    clear htle d₁ d₂ d₃ d₄ d₅ d₆ d₇ d₈ d₉ m₁ m₂ m₃ m₄ m₅ m₆ m₇ m₈ m₉ e₈ e₇ l₇ m₁₀
    clear r₁ r₂ r₃ r₄ r₅ r₆ r₇ r₈ r₉ r₁₀ p₇ p₈
    have hlt6 := hls₆.lt
    have hmτ := pget pτ hm₆
    have heτ := pget pτ he₆
    have hklτ := pget pτ hkl₆
    have hlsτ : LIs τ ls _ := hls₆.mono fun m hm ns hl => pget pτ hl
    have pσ : σ <+: τ := pσ₆.trans pτ
    have hcl : c < τ.length := by
      have h1 := (List.getElem?_eq_some_iff.mp hmτ).1
      lia
    have hcτ : ∃ v, τ[c]? = some (.cell v) := ⟨_, pget pτ e₆⟩
    clear hm₆ he₆ hkl₆ hls₆ pσ₆ e₆ q₆ pτ
    refine WS_assignComp turn1 ⟨by decide, by rw [hcc]; rfl, rfl, by decide⟩ ?_ (by intro _ _; rfl) (by rw [hsc]; decide) (kind_of hsc rfl)
    repeat wtm_at "step"
    have hfour := h4 left hi5
    have hsum : ∀ k, k < 3 → sumK cc left k < 49 := by
      intro k hk
      have : k = 0 ∨ k = 1 ∨ k = 2 := by lia
      rcases this with rfl | rfl | rfl
      · exact hfour.1
      · exact hfour.2.1
      · exact hfour.2.2.1
    refine CompFrom.one (Src.list d₁₀) (fun σ' hp => pget hp d₁₀) (by lia) (fun _ => true) (fun k => .flt (fr128 (sumK cc left k))) ?_ ?_
    · intro cx' k x loc₁ σ' hcx hx hp
      have hk3 : k < 3 := by have := (List.getElem?_eq_some_iff.mp hx).1; lia
      obtain ⟨T, u, v, h1, h2, h3, h5⟩ := Hp k hk3
      rw [hx] at h1
      cases h1
      have hsc' : cx'.scope = { kind := .function, names := [(Str.ofString ".0", .local), (Str.ofString "one", .local), (Str.ofString "two", .local), (Str.ofString "common", .cell)], isGenerator := false, isCoroutine := false } := by
        rw [hcx]
        show relabelM _ cx = _
        unfold relabelM
        rw [hsc]
        rfl
      have hcc' : cx'.cells = [(Str.ofString "common", c + 1 + 1)] := by
        rw [hcx]
        show idx (cellNames _) _ ++ freeIdx cx.cells _ [] = _
        rw [hcc]
        rfl
      clear hsc hcc hcx
      have f1 := pget hp hmτ
      have g0 := pget (pσ.trans hp) h₀
      have t1 := pget hp h2
      have t2 := pget hp h3
      have t3 := pget hp h5
      have hkl5 : ks.length = 5 := by rw [hR.length]; exact hsq.1
      have row : ∀ a b, a < b → b < 5 → ∃ ka, (ks.map MV.obj)[(((a : Nat) : Int)).toNat]? = some (.obj ka) ∧ σ'[ka]? = some (.list ((R.getD a []).map .int)) ∧ (R.getD a []).length = 5 ∧ ((R.getD a []).map MV.int)[(((b : Nat) : Int)).toNat]? = some (.int (cc a b : Nat)) := by
        intro a b ha hb
        have hRa : R[a]? = some (R.getD a []) := by rw [List.getD_eq_getElem?_getD, List.getElem?_eq_getElem (by rw [hsq.1]; lia)]; rfl
        obtain ⟨ka, hka, hla⟩ := hR.get' hRa
        have hra := hsq.2 _ (List.mem_of_getElem? hRa)
        refine ⟨ka, by simp [hka], pget (pσ.trans hp) hla, hra, ?_⟩
        rw [Int.toNat_natCast, List.getElem?_map, List.getElem?_eq_getElem (by lia)]
        have := hcm a b ha hb
        rw [List.getD_eq_getElem?_getD, List.getElem?_eq_getElem (by lia), Option.getD_some] at this
        rw [← this]; rfl
      obtain ⟨q1, q2, q3, q4⟩ := pr_lt left k
      obtain ⟨ka, ha1, ha2, ha3, ha4⟩ := row _ _ q1 q2
      obtain ⟨kb, hb1, hb2, hb3, hb4⟩ := row _ _ q3 q4
      refine WA.tup rfl ⟨_, _, Src.tup t1, t1, ⟨_, rfl, .inr ⟨_, t1⟩⟩, rfl, ?_⟩
      simp only [WAs]
      repeat wtm_at "step"
      refine ⟨rfl, List.prefix_rfl, fun _ => ?_⟩
      repeat wtm_at "step"
      refine OS.tup t2 (by decide) (by simp) (by simp) rfl ?_ (by intro _ _; exact ⟨_, rfl⟩)
      repeat wtm_at "step"
      refine OS.list g0 (by lia) (by simp; lia) (by simp; lia) (by unfold ixOf; rw [if_pos (by lia)]; exact ha1) ?_ (by intro _ _; exact ⟨_, rfl⟩)
      repeat wtm_at "step"
      refine OS.tup t2 (by decide) (by simp) (by simp) rfl ?_ (by intro _ _; exact ⟨_, rfl⟩)
      repeat wtm_at "step"
      refine OS.list ha2 (by lia) (by rw [List.length_map]; lia) (by rw [List.length_map]; lia) (by unfold ixOf; rw [if_pos (by lia)]; exact ha4) ?_ (by intro _ _; exact ⟨_, rfl⟩)
      repeat wtm_at "step"
      refine OS.tup t3 (by decide) (by simp) (by simp) rfl ?_ (by intro _ _; exact ⟨_, rfl⟩)
      repeat wtm_at "step"
      refine OS.list g0 (by lia) (by simp; lia) (by simp; lia) (by unfold ixOf; rw [if_pos (by lia)]; exact hb1) ?_ (by intro _ _; exact ⟨_, rfl⟩)
      repeat wtm_at "step"
      refine OS.tup t3 (by decide) (by simp) (by simp) rfl ?_ (by intro _ _; exact ⟨_, rfl⟩)
      repeat wtm_at "step"
      refine OS.list hb2 (by lia) (by rw [List.length_map]; lia) (by rw [List.length_map]; lia) (by unfold ixOf; rw [if_pos (by lia)]; exact hb4) ?_ (by intro _ _; exact ⟨_, rfl⟩)
      repeat wtm_at "step"
      have efr : Float64.ofFrac (decide (((cc (pr left k).1.1 (pr left k).1.2 : Nat) : Int) + ((cc (pr left k).2.1 (pr left k).2.2 : Nat) : Int) < 0) != decide ((128 : Int) < 0)) (((cc (pr left k).1.1 (pr left k).1.2 : Nat) : Int) + ((cc (pr left k).2.1 (pr left k).2.2 : Nat) : Int)).natAbs (128 : Int).natAbs = fr128 (sumK cc left k) := by
        rw [decide_eq_false (by lia), show (((cc (pr left k).1.1 (pr left k).1.2 : Nat) : Int) + ((cc (pr left k).2.1 (pr left k).2.2 : Nat) : Int)).natAbs = sumK cc left k by unfold sumK; lia]
        rfl
      refine OB.divI (by decide) (by rw [efr]; exact fr_inf (hsum k hk3)) ?_
      rw [efr]
      exact ⟨rfl, by wtm_at "pre"⟩
    intro τ₁ r₁ d₁
    have d₁' : τ₁[τ.length]? = some (.list ([fr128 (sumK cc left 0), fr128 (sumK cc left 1), fr128 (sumK cc left 2)].map .flt)) := by
      rw [d₁, htl]; rfl
    generalize τ.length = kparts at d₁'
    have col := four_colour hfour
    clear d₁
    repeat wtm_at "step"
    refine WS.assignTup ?_ (by intro _; rfl) (by intro _; rfl)
    repeat wtm_at "step"
    refine OS.list d₁' (by lia) (by simp) (by simp) rfl ?_ (by intro _ _; exact ⟨_, rfl⟩)
    repeat wtm_at "step"
    refine OS.list d₁' (by lia) (by simp) (by simp) rfl ?_ (by intro _ _; exact ⟨_, rfl⟩)
    repeat wtm_at "step"
    refine OS.list d₁' (by lia) (by simp) (by simp) rfl ?_ (by intro _ _; exact ⟨_, rfl⟩)
    repeat wtm_at "step"
    refine hsv_c hK col.z ?_
    intro τ₂ kt r₂ d₂
    have colF := col.toF
    clear col
    have hcor3 : corL cc left < 3 := corN_lt (sumK cc left 0) (sumK cc left 1) (sumK cc left 2)
    change ColF _ _ _ _ _ _ (corL cc left) (sprL cc left) at colF
    generalize hsv (fr128 (sumK cc left 0)) (fr128 (sumK cc left 1)) (fr128 (sumK cc left 2)) = t at *
    obtain ⟨fh, fs, fv⟩ := t
    dsimp only at colF d₂
    refine WA.tup rfl ⟨_, _, Src.tup d₂, d₂, ⟨_, rfl, .inr ⟨_, d₂⟩⟩, rfl, ?_⟩
    simp only [WAs]
    repeat wtm_at "step"
    refine OCall.int' colF.hc ?_
    repeat wtm_at "step"
    refine OCall.int' colF.hs ?_
    repeat wtm_at "step"
    refine ⟨fun _ => ?_, fun h => absurd (of_decide_eq_true h) (by lia)⟩
    repeat wtm_at "step"
    refine OB.subFI (by lia) ?_
    repeat wtm_at "step"
    refine OB.pow (by decide) (by decide +kernel) ?_
    rw [show ((2 : Int) ^ (20 : Int).toNat) = 1048576 from rfl]
    refine OB.mulFI (by decide) ?_
    repeat wtm_at "step"
    rw [near_gt colF.nc]
    refine ⟨fun h => absurd h (by decide), fun _ => ?_⟩
    repeat wtm_at "step"
    have d₁₂ := pget r₂ d₁'
    refine OCall.maxL d₁₂ (by simp) ?_
    repeat wtm_at "step"
    rw [colF.v]
    refine ⟨fun _ => ?_, fun h => absurd h (by decide)⟩
    repeat wtm_at "step"
    refine OB.subFI ?_ ?_
    · have : sprL cc left < 49 := by
        have h1 := hsum 0 (by lia)
        have h2 := hsum 1 (by lia)
        have h3 := hsum 2 (by lia)
        unfold sprL sprN
        lia
      lia
    repeat wtm_at "step"
    refine OB.pow (by decide) (by decide +kernel) ?_
    rw [show ((2 : Int) ^ (20 : Int).toNat) = 1048576 from rfl]
    refine OB.mulFI (by decide) ?_
    repeat wtm_at "step"
    rw [near_gt colF.ns]
    refine ⟨fun h => absurd h (by decide), fun _ => ?_⟩
    clear colF
    repeat wtm_at "step"
    refine WS.for_ ?_
    repeat wtm_at "step"
    intro τ₃ k₃ r₃ d₃ m₃
    have pτ : τ <+: τ₃ := r₁.trans (r₂.trans r₃)
    have Hp₃ : ∀ k, k < 3 → ∃ T u v, tl[k]? = some (.obj T) ∧ τ₃[T]? = some (.tup [.obj u, .obj v]) ∧ τ₃[u]? = some (.tup [.int (pr left k).1.1, .int (pr left k).1.2]) ∧ τ₃[v]? = some (.tup [.int (pr left k).2.1, .int (pr left k).2.2]) :=
      fun k hk => let ⟨T, u, v, a, b, d, e⟩ := Hp k hk; ⟨T, u, v, a, pget pτ b, pget pτ d, pget pτ e⟩
    have hkp₃ := pget pτ d₁₀
    have hm₃ := pget pτ hmτ
    have he₃ := pget pτ heτ
    have hkl₃ := pget pτ hklτ
    have hls₃ : LIs τ₃ ls _ := hlsτ.mono fun m hm ns hl => pget pτ hl
    have pσ₃ := pσ.trans pτ
    have hc₃ : ∃ v, τ₃[c]? = some (.cell v) := let ⟨v, e⟩ := hcτ; ⟨v, pget pτ e⟩
    clear Hp d₁₀ hmτ heτ hklτ hlsτ pσ hcτ d₁₂ d₁' d₂ r₁ r₂ r₃ pτ
    have hkpn : kp ∉ ls := fun h => by have := hlt6 kp h; lia
    have hkln : kl ∉ ls := fun h => by have := hgt kl h; lia
    have hlow : ∀ m, m < c + 3 → m ∉ ls := fun m hm h => by have := hgt m h; lia
    have htup : ∀ {m : Nat} {xs : List MV}, τ₃[m]? = some (.tup xs) → m ∉ ls := fun {m xs} e h => by
      obtain ⟨i, hi⟩ := List.getElem?_of_mem h
      obtain ⟨ns, -, hl⟩ := hls₃.get hi
      unfold LI at hl
      rw [e] at hl; cases hl
    refine ⟨_, _, Src.rng d₃ (by decide) (by decide) (by decide) (by decide), trivial, ?_⟩
    refine forChain_inv (fun k loc σ' => loc.lookup (Str.ofString "corner") = some (.int (corL cc left : Nat)) ∧ loc.lookup (Str.ofString "spread") = some (.int (sprL cc left : Nat)) ∧ loc.lookup (Str.ofString "pairings") = some (.obj kp) ∧ σ <+: σ' ∧ (∀ m x, m ∉ ls → τ₃[m]? = some x → σ'[m]? = some x) ∧ LIs σ' ls ((List.range k).foldl (turnK cc left) (leastOf cc left))) ?_ ?_ ?_ ?_
    · rintro k x loc' σ' hx hok ⟨hco, hsp, hpa, hp', hkeep, hD⟩
      obtain ⟨hk, rfl⟩ := rngL_get hx
      have hk3 : k < 3 := by lia
      rw [show (0 + (k : Int)) = (k : Int) by lia]
      wtm_at "step"
      wtm_at "step"
      wtm_at "step"
      wtm_at "step"
      refine WE.ifeV (c₀ := decide (k = corL cc left)) (v := .int (saidN cc left k : Nat)) ?_ ?_ ?_ ?_
      · repeat wtm_at "step"
        refine ⟨?_, rfl⟩
        rw [Bool.eq_iff_iff]; simp; lia
      · intro h
        repeat wtm_at "step"
        refine ⟨?_, rfl⟩
        unfold saidN; rw [if_pos (of_decide_eq_true h)]
      · intro h
        repeat wtm_at "step"
        refine ⟨?_, rfl⟩
        unfold saidN; rw [if_neg (of_decide_eq_false h)]; rfl
      repeat wtm_at "step"
      refine WS.for_ ?_
      repeat wtm_at "step"
      obtain ⟨T, u, v, t1, t2, t3, t4⟩ := Hp₃ k hk3
      have hkp' := hkeep _ _ hkpn hkp₃
      have hT' := hkeep _ _ (htup t2) t2
      refine OS.list hkp' (by lia) (by lia) (by lia) (by unfold ixOf; rw [if_pos (by lia)]; exact t1) ?_ (by intro _ _; exact ⟨_, rfl⟩)
      refine ⟨_, _, Src.tup hT', hT', ?_⟩
      have hDsq := foldK_sq (c := cc) (left := left) (List.range k) (least_sq cc left)
      generalize hDe : (List.range k).foldl (turnK cc left) (leastOf cc left) = D at hD hDsq
      refine forChain_inv (fun m loc σ'' => loc.lookup (Str.ofString "corner") = some (.int (corL cc left : Nat)) ∧ loc.lookup (Str.ofString "spread") = some (.int (sprL cc left : Nat)) ∧ loc.lookup (Str.ofString "pairings") = some (.obj kp) ∧ loc.lookup (Str.ofString "said") = some (.int (saidN cc left k : Nat)) ∧ σ <+: σ'' ∧ (∀ m x, m ∉ ls → τ₃[m]? = some x → σ''[m]? = some x) ∧ LIs σ'' ls (((prs left k).take m).foldl (updD (saidN cc left k : Nat)) D)) ?_ ?_ ?_ ?_
      · rintro m x loc'' σ'' hx hok ⟨hco, hsp, hpa, hsd, hp'', hkeep', hD'⟩
        have hm2 : m < 2 := by have := (List.getElem?_eq_some_iff.mp hx).1; simpa using this
        obtain ⟨w, p, hw, hpm, hwt⟩ : ∃ w p, ([.obj u, .obj v] : List MV)[m]? = some (.obj w) ∧ (prs left k)[m]? = some p ∧ τ₃[w]? = some (.tup [.int (p.1 : Nat), .int (p.2 : Nat)]) := by
          have : m = 0 ∨ m = 1 := by lia
          rcases this with rfl | rfl
          · exact ⟨u, _, rfl, rfl, t3⟩
          · exact ⟨v, _, rfl, rfl, t4⟩
        rw [hw] at hx
        cases hx
        obtain ⟨x, y⟩ := p
        obtain ⟨hxy, hy5⟩ := prs_lt left k _ (List.mem_of_getElem? hpm)
        dsimp only at hxy hy5 hwt
        have hDsq' : Sq (((prs left k).take m).foldl (updD (saidN cc left k : Nat)) D) := foldl_sq _ hDsq fun p hp => by have := prs_lt left k p (List.mem_of_mem_take hp); lia
        have hnext : ((prs left k).take (m + 1)).foldl (updD (saidN cc left k : Nat)) D = (((prs left k).take m).foldl (updD (saidN cc left k : Nat)) D).set x (((((prs left k).take m).foldl (updD (saidN cc left k : Nat)) D).getD x []).set y (min ((((((prs left k).take m).foldl (updD (saidN cc left k : Nat)) D).getD x []).getD y 0)) (saidN cc left k : Nat))) := by
          rw [List.take_add_one, hpm, List.foldl_append]; rfl
        generalize ((prs left k).take m).foldl (updD (saidN cc left k : Nat)) D = D' at hD' hDsq' hnext
        have hDx : D'[x]? = some (D'.getD x []) := by rw [List.getD_eq_getElem?_getD, List.getElem?_eq_getElem (by rw [hDsq'.1]; lia)]; rfl
        obtain ⟨kx, hkx, hlx⟩ := hD'.get' hDx
        have hrl := hDsq'.2 _ (List.mem_of_getElem? hDx)
        generalize D'.getD x [] = row at hDx hlx hrl hnext
        unfold LI at hlx
        have hw' := hkeep' _ _ (htup hwt) hwt
        have he'' := hkeep' _ _ (hlow _ (by lia)) he₃
        have hkl'' := hkeep' _ _ hkln hkl₃
        have hkx' : (ls.map MV.obj)[ixOf ((x : Nat) : Int) (ls.map MV.obj).length]? = some (.obj kx) := by unfold ixOf; rw [if_pos (by lia)]; simp [hkx]
        refine WA.tup rfl ⟨_, _, Src.tup hw', hw', ⟨_, rfl, .inr ⟨_, hw'⟩⟩, rfl, ?_⟩
        simp only [WAs]
        repeat wtm_at "step"
        refine OS.list hkl'' (by lia) (by rw [List.length_map]; lia) (by rw [List.length_map]; lia) hkx' ?_ (by intro _ _; exact ⟨_, rfl⟩)
        repeat wtm_at "step"
        refine OS.list (v := .int (row.getD y 0)) hlx (by lia) (by rw [List.length_map]; lia) (by rw [List.length_map]; lia) (by unfold ixOf; rw [if_pos (by lia)]; simp [List.getD_eq_getElem?_getD]; rw [List.getElem?_eq_getElem (by lia)]; rfl) ?_ (by intro _ _; exact ⟨_, rfl⟩)
        repeat wtm_at "step"
        refine OS.list hkl'' (by lia) (by rw [List.length_map]; lia) (by rw [List.length_map]; lia) hkx' ?_ (by intro _ _; exact ⟨_, rfl⟩)
        repeat wtm_at "step"
        refine O.setL' hlx (by lia) (by rw [List.length_map]; lia) (by rw [List.length_map]; lia) ?_
        intro ρ₁ s₁ s₂ s₃ s₄
        repeat wtm_at "step"
        have hkxl : kx ∈ ls := List.mem_of_getElem? hkx
        have hkxσ : σ.length ≤ kx := by have := hgt kx hkxl; lia
        refine ⟨(s₂ _ (fun e => htup t2 (by rw [e]; exact hkxl))).trans hok, hco, hsp, hpa, hsd, s₄ _ hp'' hkxσ, fun m z hm e => (s₂ m (fun q => hm (q ▸ hkxl))).trans (hkeep' m z hm e), ?_⟩
        rw [hnext]
        refine hD'.turn hnd hkx s₂ ?_
        unfold LI
        rw [s₃, List.map_set]
        rw [show ((y : Nat) : Int).toNat = y from rfl]
        congr 3
        congr 1
        split <;> lia
      · rintro loc'' σ'' hok ⟨hco, hsp, hpa, hsd, hp'', hkeep', hD'⟩
        repeat wtm_at "step"
        refine ⟨trivial, hco, hsp, hpa, hp'', hkeep', ?_⟩
        rw [List.range_succ, List.foldl_append, hDe]
        exact hD'
      · exact ⟨by with_unfolding_all (wtm_at "look"), by with_unfolding_all (wtm_at "look"), by with_unfolding_all (wtm_at "look"), by with_unfolding_all (wtm_at "look"), hp', hkeep, hD⟩
      · exact hT'
    · rintro loc' σ' hok ⟨hco, hsp, hpa, hp', hkeep, hD⟩
      repeat wtm_at "step"
      refine ⟨trivial, hp', hkeep _ _ (hlow _ (by lia)) hm₃, hkeep _ _ (hlow _ (by lia)) he₃, ?_, hkeep _ _ hkln hkl₃, ?_⟩
      · obtain ⟨v, e⟩ := hc₃
        exact ⟨v, hkeep _ _ (hlow _ (by lia)) e⟩
      · unfold leastOf at hD ⊢
        rw [List.range_succ, List.foldl_append]
        exact hD
    · exact ⟨by with_unfolding_all (wtm_at "look"), by with_unfolding_all (wtm_at "look"), by with_unfolding_all (wtm_at "look"), pσ₃, fun m x _ e => e, hls₃⟩
    · trivial
  · rintro loc σ₅ hok ⟨p₅, hm₅, he₅, hl₅, hkl₅, hls₅⟩
    have hlsF : LIs σ₅ ls (leastOf cc 5) := hls₅
    have hDsq := least_sq cc 5
    repeat wtm_at "step"
    refine WE.comp turn2 ⟨by decide, by rw [hcc]; rfl, rfl, by decide⟩ ?_ (by intro _ _; rfl)
    repeat wtm_at "step"
    intro σ₆ k₆ p₆ e₆ l₆
    refine CompFrom.two (Src.rng e₆ (by decide) (by decide) (by decide) (by decide)) (fun _ _ => trivial) (fun i => 4 - i) (fun i j => .int (((leastOf cc 5).getD i []).getD (i + 1 + j) 0)) (by lia) (by rw [rngL_length]; decide) turn3 (by intro _ _; rfl) ?_ ?_
    · intro cx' i x loc₇ σ₇ hcx hx p₇
      obtain ⟨hi, rfl⟩ := rngL_get hx
      have hi5 : i < 5 := by lia
      have hsc' : cx'.scope = { kind := .function, names := [(Str.ofString ".0", .local), (Str.ofString "i", .local), (Str.ofString "j", .local), (Str.ofString "range", .globalImplicit), (Str.ofString "least", .cell)], isGenerator := false, isCoroutine := false } := by
        rw [hcx]
        show relabelM _ cx = _
        unfold relabelM
        rw [hsc]
        rfl
      have hcc' : cx'.cells = [(Str.ofString "least", c + 1)] := by
        rw [hcx]
        show idx (cellNames _) _ ++ freeIdx cx.cells _ [] = _
        rw [hcc]
        rfl
      clear hsc hcc hcx
      rw [show (0 + (i : Int)) = (i : Int) by lia]
      repeat wtm_at "step"
      intro σ₈ k₈ p₈ e₈ l₈
      refine ⟨by wtm_at "pre", _, _, fun l => l.lookup (Str.ofString "i") = some (.int (i : Int)), Src.rng e₈ (by lia) (by lia) (by decide) (by decide), fun _ => trivial, by rw [rngL_length]; lia, look_eq, ?_⟩
      intro j y loc₉ σ₉ hy p₉ hLP
      obtain ⟨hj, rfl⟩ := rngL_get hy
      have g1 := pget (p₆.trans p₉) he₅
      have g2 := pget (p₆.trans p₉) hkl₅
      have hDx : (leastOf cc 5)[i]? = some ((leastOf cc 5).getD i []) := by rw [List.getD_eq_getElem?_getD, List.getElem?_eq_getElem (by rw [hDsq.1]; lia)]; rfl
      obtain ⟨kx, hkx, hlx⟩ := hlsF.get' hDx
      have hrl := hDsq.2 _ (List.mem_of_getElem? hDx)
      obtain ⟨row, hrow⟩ : ∃ row, RowIs cc i row := ⟨_, ⟨rfl⟩⟩
      rw [← hrow.e] at hDx hlx hrl
      clear hDx
      have hlx' : LI σ₉ kx row := pget (p₆.trans p₉) hlx
      unfold LI at hlx'
      rw [show (i : Int) + 1 + (j : Int) = ((i + 1 + j : Nat) : Int) by lia]
      repeat wtm_at "step"
      refine ⟨look_ne (by decide) hLP, ?_⟩
      repeat wtm_at "step"
      refine OS.list (v := .obj kx) g2 (by lia) (by rw [List.length_map]; lia) (by rw [List.length_map]; lia) (by unfold ixOf; rw [if_pos (by lia)]; simp [hkx]) ?_ (by intro _ _; exact ⟨_, rfl⟩)
      repeat wtm_at "step"
      refine OS.list (v := .int (row.getD (i + 1 + j) 0)) hlx' (by lia) (by rw [List.length_map]; lia) (by rw [List.length_map]; lia) (by unfold ixOf; rw [if_pos (by lia), show ((i + 1 + j : Nat) : Int).toNat = i + 1 + j from rfl]; simp [List.getD_eq_getElem?_getD]; rw [List.getElem?_eq_getElem (by lia)]; rfl) ?_ (by intro _ _; exact ⟨_, rfl⟩)
      refine ⟨?_, by wtm_at "pre"⟩
      show MV.int (row.getD (i + 1 + j) 0) = MV.int (((leastOf cc 5).getD i []).getD (i + 1 + j) 0)
      rw [hrow.e]
    · intro σ₇ p₇ e₇
      repeat wtm_at "step"
      refine ⟨_, rfl, hP σ₇ _ (p₅.trans (p₆.trans p₇)) ?_⟩
      unfold LI coloursOf
      rw [e₇, rngL_length, List.map_flatMap]
      simp only [List.map_map]
      rfl
  · refine ⟨(a₃ _ (p₀.trans (p₁.trans p₂)) (by lia)).trans p₄, pget p₄ ((b₃ _ (by lia)).trans (pget (p₁.trans p₂) cm)), pget p₄ e₃, ⟨_, pget p₄ ((b₃ _ (by lia)).trans (pget (p₁.trans p₂) cl))⟩, pget p₄ ((b₃ _ (by lia)).trans e₂), hrows hlsl fun j h1 h2 => ?_⟩
    rw [pget p₄ ((b₃ j (by lia)).trans (List.getElem?_eq_getElem h2)), List.getElem?_eq_getElem h2]
  · trivial

noncomputable def Tri (p q r : Nat) : Prop := (p = q ∧ p ≤ r) ∨ (p = r ∧ p ≤ q) ∨ (q = r ∧ q ≤ p)
theorem Tri.eq_of_lt {p q r : Nat} (h : Tri p q r) (hr : q < r) : p = q := by unfold Tri at h; lia
theorem Tri.eq_of_lt' {p q r : Nat} (h : Tri p q r) (hr : p < r) : q = p := by unfold Tri at h; lia
theorem Tri.swap {p q r : Nat} (h : Tri p q r) : Tri q p r := by unfold Tri at *; lia
theorem Tri.rot {p q r : Nat} (h : Tri p q r) : Tri r p q := by unfold Tri at *; lia
theorem Tri.rot' {p q r : Nat} (h : Tri p q r) : Tri p r q := h.rot.swap
theorem Tri.le {p q r : Nat} (h : Tri p q r) : min p q ≤ r := by unfold Tri at h; lia
theorem Tri.eq {p q r : Nat} (h : Tri p q r) (hn : p ≠ q) : r = min p q := by unfold Tri at h; lia
theorem Tri.ge {A p q r : Nat} (h : Tri p q r) (hp : p < A) (hq : q < A) : A - max p q ≤ A + r - (p + q) := by have := h.le; lia
theorem Tri.val {A p q r : Nat} (h : Tri p q r) (hp : p < A) (hq : q < A) (hn : p ≠ q) : A + r - (p + q) = A - max p q := by have := h.eq hn; subst this; lia
theorem q_eq {A a xy xz yz : Nat} (ha : a < A) (h1 : a ≤ xy) (h2 : a ≤ xz) (h : min xy xz ≤ yz) :
    min (A + xy - (a + a)) (min (A + xz - (a + a)) (A + yz - (a + a))) = (A - max a (max a a)) + (min xy xz - a) := by
  obtain ⟨k, rfl⟩ := Nat.exists_eq_add_of_le (Nat.le_of_lt ha)
  obtain ⟨p, rfl⟩ := Nat.exists_eq_add_of_le h1
  obtain ⟨q, rfl⟩ := Nat.exists_eq_add_of_le h2
  rw [Nat.add_min_add_left] at h ⊢
  obtain ⟨r, rfl⟩ := Nat.exists_eq_add_of_le h
  have f : ∀ p, a + k + (a + p) - (a + a) = k + p := fun p => by rw [Nat.add_add_add_comm, Nat.add_sub_cancel_left]
  rw [Nat.max_self, Nat.max_self, f, f, Nat.add_assoc a (min p q) r, f, Nat.add_min_add_left, Nat.add_min_add_left, ← Nat.min_assoc, Nat.min_eq_left (Nat.le_add_right _ _), Nat.add_sub_cancel_left, Nat.add_sub_cancel_left]
theorem min3eq {m u v w : Nat} (hu : m ≤ u) (hv : m ≤ v) (hw : m ≤ w) (h : u = m ∨ v = m ∨ w = m) : min u (min v w) = m := by lia
theorem q_ne {A a b c u v w : Nat} (gu : A - max a b ≤ u) (gv : A - max a c ≤ v) (gw : A - max b c ≤ w) (eu : a ≠ b → u = A - max a b) (ev : a ≠ c → v = A - max a c) (ew : b ≠ c → w = A - max b c) (h : ¬ (a = b ∧ a = c)) : min u (min v w) = A - max a (max b c) := by
  have hb := Nat.le_max_left b c
  have hc := Nat.le_max_right b c
  have hm := Nat.le_max_right a (max b c)
  have ha := Nat.le_max_left a (max b c)
  refine min3eq (Nat.le_trans (Nat.sub_le_sub_left (Nat.max_le.mpr ⟨ha, Nat.le_trans hb hm⟩) A) gu) (Nat.le_trans (Nat.sub_le_sub_left (Nat.max_le.mpr ⟨ha, Nat.le_trans hc hm⟩) A) gv) (Nat.le_trans (Nat.sub_le_sub_left hm A) gw) ?_
  by_cases hl : a ≤ max b c
  · by_cases e : b = c
    · left
      rw [eu fun x => h ⟨x, x.trans e⟩, ← e, Nat.max_self]
    · right; right
      rw [ew e, Nat.max_eq_right hl]
  · left
    have hl' := Nat.le_of_lt (Nat.lt_of_not_le hl)
    rw [eu fun x => hl (Nat.le_trans (Nat.le_of_eq x) hb), Nat.max_eq_left (Nat.le_trans hb hl'), Nat.max_eq_left hl']
theorem quint1 {A a b c xy xz yz : Nat} (ha : a < A) (hb : b < A) (hc : c < A)
  (h1 : Tri a b xy) (h4 : Tri a c xz) (h7 : Tri b c yz) (k1 : Tri xy xz yz) :
  min (A + xy - (a + b)) (min (A + xz - (a + c)) (A + yz - (b + c))) = (A - max a (max b c)) + (min xy xz - a) := by
  by_cases e : a = b ∧ a = c
  · obtain ⟨rfl, rfl⟩ := e
    have g1 := h1.le
    have g2 := h4.le
    rw [Nat.min_self] at g1 g2
    exact q_eq ha g1 g2 k1.le
  · rw [q_ne (h1.ge ha hb) (h4.ge ha hc) (h7.ge hb hc) (h1.val ha hb) (h4.val ha hc) (h7.val hb hc) e]
    have : min xy xz ≤ a := by
      by_cases e1 : a = b
      · have := h4.eq fun e2 => e ⟨e1, e2⟩
        lia
      · have := h1.eq e1
        lia
    rw [Nat.sub_eq_zero_of_le this, Nat.add_zero]

theorem zero_one {A aw bw au bu wu : Nat} (h : A = bw ∧ A ≤ aw) (T1 : Tri aw au wu) (T2 : Tri bw bu wu) : A + wu - max (aw + bu) (au + bw) = 0 ∨ (au = aw ∧ bu = A ∧ aw < wu) := by
  by_cases h1 : wu ≤ au
  · left; lia
  right
  have e1 := T1.eq_of_lt (by lia)
  subst e1
  have e3 := T2.eq_of_lt' (by lia)
  exact ⟨rfl, by lia, by lia⟩
theorem zero_case {A aw bw au bu av bv wu wv uv : Nat} (h : A = bw ∧ A ≤ aw) (T1 : Tri aw au wu) (T2 : Tri bw bu wu) (T3 : Tri aw av wv) (T4 : Tri bw bv wv) (T5 : Tri wu wv uv) :
    A + wu - max (aw + bu) (au + bw) = 0 ∨ A + wv - max (aw + bv) (av + bw) = 0 ∨ (au = aw ∧ av = aw ∧ bu = A ∧ bv = A ∧ aw < wu ∧ aw < wv ∧ aw < uv) := by
  rcases zero_one h T1 T2 with r | ⟨e1, e2, e3⟩
  · exact .inl r
  rcases zero_one h T3 T4 with r | ⟨f1, f2, f3⟩
  · exact .inr (.inl r)
  refine .inr (.inr ⟨e1, f1, e2, f2, e3, f3, ?_⟩)
  have := T5.le
  lia
theorem q_pair {A ax bx xy xz yz : Nat} (hA : (A = bx ∧ A ≤ ax) ∨ (A = ax ∧ A ≤ bx)) (g1 : max ax bx < xy) (g2 : max ax bx < xz) (hyz : min xy xz ≤ yz) :
    min (A + xy - max (ax + bx) (ax + bx)) (min (A + xz - max (ax + bx) (ax + bx)) (A + yz - max (ax + bx) (ax + bx))) = (A - max ax (max ax ax)) + (min xy xz - max ax bx) := by
  rw [Nat.max_self, Nat.max_self, Nat.max_self]
  have e : max ax bx + A = ax + bx := by lia
  have e2 : A - ax = 0 := by lia
  rw [e2, ← e, Nat.add_comm (max ax bx) A, Nat.add_sub_add_left, Nat.add_sub_add_left, Nat.add_sub_add_left, Nat.sub_min_sub_right, Nat.sub_min_sub_right, ← Nat.min_assoc, Nat.min_eq_left hyz, Nat.zero_add]
theorem q_zero {p q r : Nat} (h : p = 0 ∨ q = 0 ∨ r = 0) : min p (min q r) = 0 := by lia
theorem q_one {A p q : Nat} (h : Tri A p q) (hp : A ≤ p) : (A = q ∧ A ≤ p) ∨ (A = p ∧ A ≤ q) := by unfold Tri at h; lia
theorem q_some {A ax ay az : Nat} (hc : ¬ (ax < A ∧ ay < A ∧ az < A)) : A ≤ ax ∨ A ≤ ay ∨ A ≤ az := by lia
theorem q_two {A p q : Nat} (h : Tri A p q) (hp : A ≤ p ∨ A ≤ p ∨ A ≤ p) : (A = q ∧ A ≤ p) ∨ (A = p ∧ A ≤ q) := q_one h (by lia)
theorem qe {A ax bx p xy xz : Nat} (ea : ax = p) (eb : bx = A) (l : A ≤ p) (g : p < xy) (g' : p < xz) : max ax bx < xy ∧ max ax bx < xz := by
  have : max ax bx ≤ p := Nat.max_le.mpr ⟨Nat.le_of_eq ea, eb ▸ l⟩
  exact ⟨Nat.lt_of_le_of_lt this g, Nat.lt_of_le_of_lt this g'⟩
theorem qe' {A ax bx p xy xz : Nat} (ea : bx = p) (eb : ax = A) (l : A ≤ p) (g : p < xy) (g' : p < xz) : max ax bx < xy ∧ max ax bx < xz := by
  rw [Nat.max_comm]
  exact qe ea eb l g g'
theorem q_rhs {A ax ay az bx xy xz : Nat} (hc : A ≤ ax ∨ A ≤ ay ∨ A ≤ az) (hE : ¬ (max ax bx < xy ∧ max ax bx < xz)) : (A - max ax (max ay az)) + (min xy xz - max ax bx) = 0 := by
  have e1 : A - max ax (max ay az) = 0 := by lia
  have e2 : min xy xz - max ax bx = 0 := by lia
  rw [e1, e2]

theorem quint {A ax ay az bx by_ bz xy xz yz : Nat} (tx : Tri A ax bx) (ty : Tri A ay by_) (tz : Tri A az bz) (a1 : Tri ax ay xy) (a2 : Tri ax az xz) (a3 : Tri ay az yz) (b1 : Tri bx by_ xy) (b2 : Tri bx bz xz) (b3 : Tri by_ bz yz) (c : Tri xy xz yz) :
    min (A + xy - max (ax + by_) (ay + bx)) (min (A + xz - max (ax + bz) (az + bx)) (A + yz - max (ay + bz) (az + by_))) = (A - max ax (max ay az)) + (min xy xz - max ax bx) := by
  by_cases hc : ax < A ∧ ay < A ∧ az < A
  · obtain ⟨h1, h2, h3⟩ := hc
    have e1 : bx = ax := tx.rot.rot.eq_of_lt' h1
    have e2 : by_ = ay := ty.rot.rot.eq_of_lt' h2
    have e3 : bz = az := tz.rot.rot.eq_of_lt' h3
    subst e1 e2 e3
    have := quint1 h1 h2 h3 a1 a2 a3 c
    rw [Nat.add_comm by_ bx, Nat.max_self, Nat.add_comm bz bx, Nat.max_self, Nat.add_comm bz by_, Nat.max_self, Nat.max_self]
    exact this
  by_cases hE : max ax bx < xy ∧ max ax bx < xz
  · obtain ⟨g1, g2⟩ := hE
    have e1 := a1.eq_of_lt' (Nat.lt_of_le_of_lt (Nat.le_max_left _ _) g1)
    have e2 := a2.eq_of_lt' (Nat.lt_of_le_of_lt (Nat.le_max_left _ _) g2)
    have e3 := b1.eq_of_lt' (Nat.lt_of_le_of_lt (Nat.le_max_right _ _) g1)
    have e4 := b2.eq_of_lt' (Nat.lt_of_le_of_lt (Nat.le_max_right _ _) g2)
    subst e1 e2 e3 e4
    exact q_pair (q_two tx (q_some hc)) g1 g2 c.le
  have hw : A ≤ ax ∨ A ≤ ay ∨ A ≤ az := q_some hc
  rw [q_rhs hw hE]
  refine q_zero ?_
  rcases hw with hw | hw | hw
  · rcases q_one tx hw with h | h
    · rcases zero_case h a1 b1 a2 b2 c with r | r | r
      · left; exact r
      · right; left; exact r
      · exact absurd (qe rfl h.1.symm h.2 r.2.2.2.2.1 r.2.2.2.2.2.1) hE
    · rcases zero_case h b1 a1 b2 a2 c with r | r | r
      · left; rw [Nat.max_comm, Nat.add_comm ax, Nat.add_comm ay]; exact r
      · right; left; rw [Nat.max_comm, Nat.add_comm ax, Nat.add_comm az]; exact r
      · exact absurd (qe' rfl h.1.symm h.2 r.2.2.2.2.1 r.2.2.2.2.2.1) hE
  · rcases q_one ty hw with h | h
    · rcases zero_case h a1.swap b1.swap a3 b3 c.rot' with r | r | r
      · left; rw [Nat.max_comm]; exact r
      · right; right; exact r
      · exact absurd (qe r.1 r.2.2.1 h.2 r.2.2.2.2.1 r.2.2.2.2.2.2) hE
    · rcases zero_case h b1.swap a1.swap b3 a3 c.rot' with r | r | r
      · left; rw [Nat.add_comm ax, Nat.add_comm ay]; exact r
      · right; right; rw [Nat.max_comm, Nat.add_comm ay, Nat.add_comm az]; exact r
      · exact absurd (qe' r.1 r.2.2.1 h.2 r.2.2.2.2.1 r.2.2.2.2.2.2) hE
  · rcases q_one tz hw with h | h
    · rcases zero_case h a2.swap b2.swap a3.swap b3.swap c.rot.rot with r | r | r
      · right; left; rw [Nat.max_comm]; exact r
      · right; right; rw [Nat.max_comm]; exact r
      · exact absurd (qe r.1 r.2.2.1 h.2 r.2.2.2.2.2.2 r.2.2.2.2.1) hE
    · rcases zero_case h b2.swap a2.swap b3.swap a3.swap c.rot.rot with r | r | r
      · right; left; rw [Nat.add_comm ax, Nat.add_comm az]; exact r
      · right; right; rw [Nat.add_comm ay, Nat.add_comm az]; exact r
      · exact absurd (qe' r.1 r.2.2.1 h.2 r.2.2.2.2.2.2 r.2.2.2.2.1) hE

section
variable {α : Type} [DecidableEq α]
theorem lcp_comm : ∀ (l m : List α), lcp l m = lcp m l
  | [], [] => rfl
  | [], _ :: _ => rfl
  | _ :: _, [] => rfl
  | a :: l, b :: m => by
    unfold lcp
    by_cases h : a = b
    · rw [if_pos h, if_pos h.symm, lcp_comm l m]
    · rw [if_neg h, if_neg (Ne.symm h)]
theorem lcp_self : ∀ (l : List α), lcp l l = l.length
  | [] => rfl
  | a :: l => by unfold lcp; rw [if_pos rfl, lcp_self l]; rfl
theorem lcp_nil_left (m : List α) : lcp [] m = 0 := by cases m <;> rfl
theorem lcp_nil_right (l : List α) : lcp l [] = 0 := by cases l <;> rfl
theorem lcp_cons (a b : α) (l m : List α) : lcp (a :: l) (b :: m) = if a = b then lcp l m + 1 else 0 := by rw [lcp]
theorem lcp_tri : ∀ (l m p : List α), Tri (lcp l m) (lcp l p) (lcp m p)
  | [], m, p => by rw [lcp_nil_left, lcp_nil_left]; unfold Tri; lia
  | a :: l, [], p => by rw [lcp_nil_right, lcp_nil_left]; unfold Tri; lia
  | a :: l, b :: m, [] => by rw [lcp_nil_right, lcp_nil_right]; unfold Tri; lia
  | a :: l, b :: m, c :: p => by
    have ih := lcp_tri l m p
    rw [lcp_cons, lcp_cons, lcp_cons]
    unfold Tri at *
    by_cases h1 : a = b
    · subst h1
      by_cases h2 : a = c
      · subst h2; simp; lia
      · simp [h2]
    · by_cases h2 : a = c
      · subst h2
        simp [h1, Ne.symm h1]
      · simp [h1, h2]
theorem take_lcp : ∀ (k : Nat) (l m : List α), k ≤ l.length → (m.take k = l.take k ↔ k ≤ lcp m l)
  | 0, l, m, _ => by simp
  | k + 1, [], m, h => by simp at h
  | k + 1, a :: l, [], h => by simp [lcp_nil_left]
  | k + 1, a :: l, b :: m, h => by
    have ih := take_lcp k l m (by simpa using h)
    rw [List.take_succ_cons, List.take_succ_cons, lcp_cons, List.cons.injEq, ih]
    by_cases e : b = a
    · rw [if_pos e]; simp [e]
    · rw [if_neg e]; simp [e]
theorem lcp_map {β : Type} [DecidableEq β] {f : α → β} : ∀ (l m : List α), (∀ a ∈ l, ∀ b ∈ m, f a = f b → a = b) → lcp (l.map f) (m.map f) = lcp l m
  | [], m, _ => by rw [List.map_nil, lcp_nil_left, lcp_nil_left]
  | a :: l, [], _ => by rw [List.map_nil, lcp_nil_right, lcp_nil_right]
  | a :: l, b :: m, h => by
    have ih := lcp_map l m fun x hx y hy => h x (by simp [hx]) y (by simp [hy])
    rw [List.map_cons, List.map_cons, lcp_cons, lcp_cons, ih]
    by_cases e : a = b
    · subst e; simp
    · rw [if_neg e, if_neg (fun q => e (h a (by simp) b (by simp) q))]
end

/-! rows -/
theorem row_pre {r r' : List Nat} (h : 13 ∉ r) (h' : 13 ∉ r') (t t' : List Nat) : r ++ 13 :: t <+: r' ++ 13 :: t' ↔ r = r' ∧ t <+: t' := by
  induction r generalizing r' with
  | nil =>
    cases r' with
    | nil => simp [List.cons_prefix_cons]
    | cons a r' =>
      simp only [List.nil_append, List.cons_append, List.cons_prefix_cons]
      constructor
      · rintro ⟨h1, -⟩; simp [← h1] at h'
      · rintro ⟨h1, -⟩; cases h1
  | cons a r ih =>
    cases r' with
    | nil =>
      simp only [List.nil_append, List.cons_append, List.cons_prefix_cons]
      constructor
      · rintro ⟨h1, -⟩; simp [h1] at h
      · rintro ⟨h1, -⟩; cases h1
    | cons b r' =>
      simp only [List.cons_append, List.cons_prefix_cons, List.cons.injEq]
      rw [ih (fun q => h (by simp [q])) (fun q => h' (by simp [q]))]
      exact and_assoc.symm
theorem txt_pre : ∀ (k : Nat) (rs qs : List (List Nat)), (∀ r ∈ rs, 13 ∉ r) → (∀ r ∈ qs, 13 ∉ r) → k ≤ rs.length → (txt (rs.take k) <+: txt qs ↔ k ≤ lcp rs qs)
  | 0, rs, qs, _, _, _ => by simp [txt]
  | k + 1, [], qs, _, _, h => by simp at h
  | k + 1, r :: rs, [], hr, _, h => by
    rw [List.take_succ_cons, txt_cons, lcp_nil_right]
    constructor
    · intro h
      have := h.length_le
      simp [txt] at this
    · intro h; lia
  | k + 1, r :: rs, q :: qs, hr, hq, h => by
    have ih := txt_pre k rs qs (fun r h => hr r (by simp [h])) (fun r h => hq r (by simp [h])) (by simpa using h)
    rw [List.take_succ_cons, txt_cons, txt_cons, lcp_cons]
    show r ++ 13 :: (10 :: txt (rs.take k)) <+: q ++ 13 :: (10 :: txt qs) ↔ _
    rw [row_pre (hr r (by simp)) (hq q (by simp)), List.cons_prefix_cons, ih]
    by_cases e : r = q
    · rw [if_pos e]; simp [e]
    · rw [if_neg e]; simp [e]
theorem fit_lcp {rs qs : List (List Nat)} (hr : ∀ r ∈ rs, 13 ∉ r) (hq : ∀ r ∈ qs, 13 ∉ r) : ∀ k, k ≤ rs.length → fitN rs (txt qs) k = min k (lcp rs qs)
  | 0, _ => by simp [fitN]
  | k + 1, h => by
    unfold fitN
    rw [fit_lcp hr hq k (by lia)]
    have := txt_pre (k + 1) rs qs hr hq h
    by_cases e : k + 1 ≤ lcp rs qs
    · rw [if_pos (List.isPrefixOf_iff_prefix.mpr (this.mpr e))]; lia
    · rw [if_neg (fun q => e (this.mp (List.isPrefixOf_iff_prefix.mp q)))]; lia
theorem sentRow_ok {x : Int} (h : 0 ≤ x ∧ x < 6) : RowOk (sentRow x) := by
  unfold RowOk sentRow
  refine ⟨(97 + x / 2).toNat, by lia, by lia, ?_⟩
  split
  · right; rfl
  · left; rfl
theorem sentRow_inj {x y : Int} (h : 0 ≤ x ∧ x < 6) (h' : 0 ≤ y ∧ y < 6) (e : sentRow x = sentRow y) : x = y := by
  unfold sentRow at e
  split at e <;> split at e <;> simp at e <;> lia
theorem fit_words {v w : List Int} (hv : ∀ x ∈ v, 0 ≤ x ∧ x < 6) (hw : ∀ x ∈ w, 0 ≤ x ∧ x < 6) : fitN (v.map sentRow) (txt (w.map sentRow)) (v.map sentRow).length = lcp v w := by
  have no13 : ∀ (v : List Int), (∀ x ∈ v, 0 ≤ x ∧ x < 6) → ∀ r ∈ v.map sentRow, 13 ∉ r := by
    intro v hv r hr
    obtain ⟨x, hx, rfl⟩ := List.mem_map.mp hr
    exact (sentRow_ok (hv x hx)).no13
  rw [fit_lcp (no13 v hv) (no13 w hw) _ (Nat.le_refl _), Nat.min_eq_right (lcp_le _ _).1]
  exact lcp_map v w fun a ha b hb e => sentRow_inj (hv a ha) (hw b hb) e

noncomputable def Lc (R : List (List Int)) (i j : Nat) : Nat := lcp (R.getD i []) (R.getD j [])
theorem Lc_comm (R : List (List Int)) (i j : Nat) : Lc R i j = Lc R j i := lcp_comm _ _
theorem Lc_tri (R : List (List Int)) (i j k : Nat) : Tri (Lc R i j) (Lc R i k) (Lc R j k) := lcp_tri _ _ _
theorem Lc_le (R : List (List Int)) (i j : Nat) : Lc R i j ≤ (R.getD i []).length := (lcp_le _ _).1

/-! the beginnings, counted -/
noncomputable def filt (p0 p1 p2 p3 p4 : Bool) : List Nat := (if p0 then [0] else []) ++ (if p1 then [1] else []) ++ (if p2 then [2] else []) ++ (if p3 then [3] else []) ++ (if p4 then [4] else [])
theorem filter_five (p : Nat → Bool) : (List.range 5).filter p = filt (p 0) (p 1) (p 2) (p 3) (p 4) := by
  show List.filter p [0, 1, 2, 3, 4] = _
  simp only [List.filter]
  cases p 0 <;> cases p 1 <;> cases p 2 <;> cases p 3 <;> cases p 4 <;> rfl
noncomputable def lowb (m : Nat) : Nat := ((List.range 5).find? fun j => m.testBit j).getD 5
theorem mask_head (p0 p1 p2 p3 p4 : Bool) : ∀ m, m < 32 → ∀ i, i < 5 → (((filt p0 p1 p2 p3 p4).head? = some i ∧ maskOf (filt p0 p1 p2 p3 p4) = m) ↔ (p0 = m.testBit 0 ∧ p1 = m.testBit 1 ∧ p2 = m.testBit 2 ∧ p3 = m.testBit 3 ∧ p4 = m.testBit 4 ∧ i = lowb m)) := by
  cases p0 <;> cases p1 <;> cases p2 <;> cases p3 <;> cases p4 <;> decide +kernel

theorem alike_eq (R : List (List Int)) {i k : Nat} (hk : k ≤ (R.getD i []).length) : alike R i k = (List.range 5).filter fun j => decide (k ≤ Lc R j i) := by
  unfold alike
  congr 1
  funext j
  rw [decide_eq_decide]
  exact take_lcp k (R.getD i []) (R.getD j []) hk
noncomputable def hit (R : List (List Int)) (m i k : Nat) : Bool := decide ((alike R i k).head? = some i ∧ maskOf (alike R i k) = m)
noncomputable def cnt (R : List (List Int)) (m i : Nat) : Nat := ((List.range (R.getD i []).length).filter fun k => hit R m i (k + 1)).length

theorem turn_get (R : List (List Int)) (i k : Nat) (c : List Int) (hc : c.length = 32) (m : Nat) (hm : m < 32) : (beginTurn R i c k).getD m 0 = c.getD m 0 + (if hit R m i k = true then 1 else 0) := by
  unfold beginTurn hit
  by_cases h : (alike R i k).head? = some i
  · rw [if_pos h]
    have hl := mask_lt R i k
    by_cases e : maskOf (alike R i k) = m
    · rw [e]
      simp [h, List.getD_eq_getElem?_getD, List.getElem?_set, hc, hm]
    · rw [List.getD_eq_getElem?_getD, List.getElem?_set_ne e, ← List.getD_eq_getElem?_getD]
      simp [e]
  · rw [if_neg h]
    simp [h]
theorem row_get (R : List (List Int)) (i m : Nat) (hm : m < 32) (c : List Int) (hc : c.length = 32) : ∀ n, ((List.range n).foldl (fun c k => beginTurn R i c (k + 1)) c).getD m 0 = c.getD m 0 + (((List.range n).filter fun k => hit R m i (k + 1)).length : Nat)
  | 0 => by simp
  | n + 1 => by
    rw [List.range_succ, List.foldl_append, List.foldl_cons, List.foldl_nil, turn_get R i (n + 1) _ ((beginRow_len R c i n).trans hc) m hm, row_get R i m hm c hc n, List.filter_append, List.length_append]
    cases h : hit R m i (n + 1) <;> simp [List.filter, h]
    lia
theorem counts_get (R : List (List Int)) (m : Nat) (hm : m < 32) : (countsOf R 5).getD m 0 = ((cnt R m 0 + cnt R m 1 + cnt R m 2 + cnt R m 3 + cnt R m 4 : Nat) : Int) := by
  have step : ∀ n, (countsOf R (n + 1)).getD m 0 = (countsOf R n).getD m 0 + (cnt R m n : Nat) := by
    intro n
    have e : countsOf R (n + 1) = beginRow R (countsOf R n) n := by
      unfold countsOf; rw [List.range_succ, List.foldl_append]; rfl
    rw [e]
    exact row_get R n m hm _ (countsOf_len R n) _
  rw [step 4, step 3, step 2, step 1, step 0]
  have : (countsOf R 0).getD m 0 = 0 := by
    show (List.replicate 32 (0 : Int)).getD m 0 = 0
    rw [List.getD_eq_getElem?_getD, List.getElem?_replicate, if_pos hm]; rfl
  rw [this]
  push_cast
  lia

theorem count_between : ∀ (n a b : Nat), a ≤ n → ((List.range n).filter fun k => decide (k + 1 ≤ a) && decide (b < k + 1)).length = a - b
  | 0, a, b, h => by simp; lia
  | n + 1, a, b, h => by
    rw [List.range_succ, List.filter_append, List.length_append]
    by_cases ha : a ≤ n
    · rw [count_between n a b ha]
      have : (decide (n + 1 ≤ a) && decide (b < n + 1)) = false := by rw [decide_eq_false (by lia)]; rfl
      simp [List.filter, this]
    · have ea : a = n + 1 := by lia
      subst ea
      have e : ((List.range n).filter fun k => decide (k + 1 ≤ n + 1) && decide (b < k + 1)) = (List.range n).filter fun k => decide (k + 1 ≤ n) && decide (b < k + 1) := by
        refine List.filter_congr fun k hk => ?_
        have := List.mem_range.mp hk
        rw [decide_eq_true (by lia : k + 1 ≤ n + 1), decide_eq_true (by lia : k + 1 ≤ n)]
      rw [e, count_between n n b (Nat.le_refl _)]
      by_cases hb : b < n + 1
      · have : (decide (n + 1 ≤ n + 1) && decide (b < n + 1)) = true := by simp [hb]
        simp [List.filter, hb]; lia
      · simp [List.filter, hb]; lia
theorem cnt_zero (R : List (List Int)) {m i : Nat} (hm : m < 32) (hi : i < 5) (h : i ≠ lowb m) : cnt R m i = 0 := by
  unfold cnt
  have : ((List.range (R.getD i []).length).filter fun k => hit R m i (k + 1)) = [] := by
    rw [List.filter_eq_nil_iff]
    intro k hk
    have hk := List.mem_range.mp hk
    unfold hit
    rw [alike_eq R (by lia), filter_five]
    have := mask_head (decide (k + 1 ≤ Lc R 0 i)) (decide (k + 1 ≤ Lc R 1 i)) (decide (k + 1 ≤ Lc R 2 i)) (decide (k + 1 ≤ Lc R 3 i)) (decide (k + 1 ≤ Lc R 4 i)) m hm i hi
    intro hh
    exact h (this.mp (of_decide_eq_true hh)).2.2.2.2.2
  rw [this]; rfl
theorem cnt_low (R : List (List Int)) {m i a b : Nat} (hm : m < 32) (hi : i < 5) (h : i = lowb m) (ha : a ≤ (R.getD i []).length)
    (hab : ∀ k, k ≤ (R.getD i []).length → ((decide (k ≤ Lc R 0 i) = m.testBit 0 ∧ decide (k ≤ Lc R 1 i) = m.testBit 1 ∧ decide (k ≤ Lc R 2 i) = m.testBit 2 ∧ decide (k ≤ Lc R 3 i) = m.testBit 3 ∧ decide (k ≤ Lc R 4 i) = m.testBit 4) ↔ (k ≤ a ∧ b < k))) : cnt R m i = a - b := by
  unfold cnt
  rw [← count_between (R.getD i []).length a b ha]
  congr 1
  refine List.filter_congr fun k hk => ?_
  have hk := List.mem_range.mp hk
  unfold hit
  rw [alike_eq R (by lia), filter_five, ← Bool.decide_and, decide_eq_decide]
  rw [mask_head (decide (k + 1 ≤ Lc R 0 i)) (decide (k + 1 ≤ Lc R 1 i)) (decide (k + 1 ≤ Lc R 2 i)) (decide (k + 1 ≤ Lc R 3 i)) (decide (k + 1 ≤ Lc R 4 i)) m hm i hi]
  have := hab (k + 1) (by lia)
  rw [← this]
  exact ⟨fun ⟨h0, h1, h2, h3, h4, _⟩ => ⟨h0, h1, h2, h3, h4⟩, fun ⟨h0, h1, h2, h3, h4⟩ => ⟨h0, h1, h2, h3, h4, h⟩⟩

theorem count_low (R : List (List Int)) {m i a b : Nat} (hm : m < 32) (hi : i < 5) (h : i = lowb m) (ha : a ≤ (R.getD i []).length)
    (hab : ∀ k, ((decide (k ≤ Lc R 0 i) = m.testBit 0 ∧ decide (k ≤ Lc R 1 i) = m.testBit 1 ∧ decide (k ≤ Lc R 2 i) = m.testBit 2 ∧ decide (k ≤ Lc R 3 i) = m.testBit 3 ∧ decide (k ≤ Lc R 4 i) = m.testBit 4) ↔ (k ≤ a ∧ b < k))) : (countsOf R 5).getD m 0 = ((a - b : Nat) : Int) := by
  have z : ∀ t, t < 5 → t ≠ i → cnt R m t = 0 := fun t ht e => cnt_zero R hm ht (h ▸ e)
  have l := cnt_low R hm hi h ha fun k _ => hab k
  rw [counts_get R m hm]
  refine congrArg _ ?_
  have hc : i = 0 ∨ i = 1 ∨ i = 2 ∨ i = 3 ∨ i = 4 := by clear z l h ha hab; lia
  rcases hc with rfl | rfl | rfl | rfl | rfl
  · rw [l, z 1 (by decide) (by decide), z 2 (by decide) (by decide), z 3 (by decide) (by decide), z 4 (by decide) (by decide)]; simp only [Nat.zero_add, Nat.add_zero]
  · rw [l, z 0 (by decide) (by decide), z 2 (by decide) (by decide), z 3 (by decide) (by decide), z 4 (by decide) (by decide)]; simp only [Nat.zero_add, Nat.add_zero]
  · rw [l, z 0 (by decide) (by decide), z 1 (by decide) (by decide), z 3 (by decide) (by decide), z 4 (by decide) (by decide)]; simp only [Nat.zero_add, Nat.add_zero]
  · rw [l, z 0 (by decide) (by decide), z 1 (by decide) (by decide), z 2 (by decide) (by decide), z 4 (by decide) (by decide)]; simp only [Nat.zero_add, Nat.add_zero]
  · rw [l, z 0 (by decide) (by decide), z 1 (by decide) (by decide), z 2 (by decide) (by decide), z 3 (by decide) (by decide)]; simp only [Nat.zero_add, Nat.add_zero]
theorem bits_all {m : Nat} (p : Nat → Bool) : (p 0 = m.testBit 0 ∧ p 1 = m.testBit 1 ∧ p 2 = m.testBit 2 ∧ p 3 = m.testBit 3 ∧ p 4 = m.testBit 4) ↔ ∀ t, t < 5 → p t = m.testBit t :=
  ⟨fun ⟨h0, h1, h2, h3, h4⟩ t ht => match t, ht with
    | 0, _ => h0
    | 1, _ => h1
    | 2, _ => h2
    | 3, _ => h3
    | 4, _ => h4,
   fun h => ⟨h 0 (by decide), h 1 (by decide), h 2 (by decide), h 3 (by decide), h 4 (by decide)⟩⟩
section bits
variable {R : List (List Int)} {k i j m : Nat}
theorem bit_yes (h : decide (k ≤ Lc R j i) = m.testBit j) (b : m.testBit j = true) : k ≤ Lc R i j := by rw [b] at h; rw [Lc_comm]; exact of_decide_eq_true h
theorem bit_no (h : decide (k ≤ Lc R j i) = m.testBit j) (b : m.testBit j = false) : Lc R i j < k := by rw [b] at h; rw [Lc_comm]; exact Nat.lt_of_not_le (of_decide_eq_false h)
theorem yes_bit (h : k ≤ Lc R i j) (b : m.testBit j = true) : decide (k ≤ Lc R j i) = m.testBit j := by rw [b, Lc_comm]; exact decide_eq_true h
theorem no_bit (h : Lc R i j < k) (b : m.testBit j = false) : decide (k ≤ Lc R j i) = m.testBit j := by rw [b, Lc_comm]; exact decide_eq_false (Nat.not_le_of_lt h)
end bits
theorem Lc_self (R : List (List Int)) (i j : Nat) : Lc R i j ≤ Lc R i i := by
  have e : Lc R i i = _ := lcp_self (R.getD i [])
  rw [e]; exact Lc_le R i j
theorem cpg (R : List (List Int)) (m i j x y z : Nat) (hm : m < 32 ∧ i = lowb m ∧ i < 5 ∧ j < 5 ∧ x < 5 ∧ y < 5 ∧ z < 5) (hp : ∀ t, t < 5 → t = i ∨ t = j ∨ t = x ∨ t = y ∨ t = z)
    (hb : m.testBit i = true ∧ m.testBit j = true ∧ m.testBit x = false ∧ m.testBit y = false ∧ m.testBit z = false) : (countsOf R 5).getD m 0 = ((Lc R i j - max (Lc R i x) (max (Lc R i y) (Lc R i z)) : Nat) : Int) := by
  obtain ⟨hm, hl, hi, hj, hx, hy, hz⟩ := hm
  obtain ⟨bi, bj, bx, by_, bz⟩ := hb
  refine count_low R hm hi hl (Lc_le R i j) fun k => (bits_all fun t => decide (k ≤ Lc R t i)).trans ⟨fun H => ?_, fun H t ht => ?_⟩
  · exact ⟨bit_yes (H j hj) bj, Nat.max_lt.mpr ⟨bit_no (H x hx) bx, Nat.max_lt.mpr ⟨bit_no (H y hy) by_, bit_no (H z hz) bz⟩⟩⟩
  · obtain ⟨h1, h2⟩ := H
    obtain ⟨h2, h3⟩ := Nat.max_lt.mp h2
    obtain ⟨h3, h4⟩ := Nat.max_lt.mp h3
    rcases hp t ht with rfl | rfl | rfl | rfl | rfl
    · exact yes_bit (Nat.le_trans h1 (Lc_self R _ _)) bi
    · exact yes_bit h1 bj
    · exact no_bit h2 bx
    · exact no_bit h3 by_
    · exact no_bit h4 bz
theorem ctg (R : List (List Int)) (m i j x y z : Nat) (hm : m < 32 ∧ x = lowb m ∧ i < 5 ∧ j < 5 ∧ x < 5 ∧ y < 5 ∧ z < 5) (hp : ∀ t, t < 5 → t = i ∨ t = j ∨ t = x ∨ t = y ∨ t = z)
    (hb : m.testBit i = false ∧ m.testBit j = false ∧ m.testBit x = true ∧ m.testBit y = true ∧ m.testBit z = true) : (countsOf R 5).getD m 0 = ((min (Lc R x y) (Lc R x z) - max (Lc R i x) (Lc R j x) : Nat) : Int) := by
  obtain ⟨hm, hl, hi, hj, hx, hy, hz⟩ := hm
  obtain ⟨bi, bj, bx, by_, bz⟩ := hb
  rw [Lc_comm R i x, Lc_comm R j x]
  refine count_low R hm hx hl (Nat.le_trans (Nat.min_le_left _ _) (Lc_le R x y)) fun k => (bits_all fun t => decide (k ≤ Lc R t x)).trans ⟨fun H => ?_, fun H t ht => ?_⟩
  · exact ⟨Nat.le_min.mpr ⟨bit_yes (H y hy) by_, bit_yes (H z hz) bz⟩, Nat.max_lt.mpr ⟨bit_no (H i hi) bi, bit_no (H j hj) bj⟩⟩
  · obtain ⟨h1, h2⟩ := H
    obtain ⟨h1, h3⟩ := Nat.le_min.mp h1
    obtain ⟨h2, h4⟩ := Nat.max_lt.mp h2
    rcases hp t ht with rfl | rfl | rfl | rfl | rfl
    · exact no_bit h2 bi
    · exact no_bit h4 bj
    · exact yes_bit (Nat.le_trans h1 (Lc_self R _ _)) bx
    · exact yes_bit h1 by_
    · exact yes_bit h3 bz

noncomputable def itemsU : List ((Nat × Nat) × Nat × Nat) := (List.range 5).flatMap fun left => (List.range 3).flatMap fun k => (prs left k).map fun p => (p, left, k)
theorem foldl_flat {α β γ : Type} (f : γ → β → γ) (g : α → List β) : ∀ (l : List α) (c : γ), (l.flatMap g).foldl f c = l.foldl (fun c a => (g a).foldl f c) c
  | [], c => rfl
  | a :: l, c => by rw [List.flatMap_cons, List.foldl_append, foldl_flat f g l]; rfl
theorem least_items (c : Nat → Nat → Nat) : leastOf c 5 = itemsU.foldl (fun D u => updD (saidN c u.2.1 u.2.2 : Nat) D u.1) (List.replicate 5 (List.replicate 5 128)) := by
  unfold itemsU leastOf
  rw [foldl_flat]
  congr 1
noncomputable def ent (D : List (List Int)) (a b : Nat) : Int := (D.getD a []).getD b 0
theorem ent_upd {s : Int} {D : List (List Int)} (h : Sq D) {p : Nat × Nat} (hp : p.1 < 5 ∧ p.2 < 5) (a b : Nat) : ent (updD s D p) a b = if p = (a, b) then min (ent D a b) s else ent D a b := by
  obtain ⟨x, y⟩ := p
  obtain ⟨hx, hy⟩ := hp
  unfold ent updD
  dsimp only at hx hy ⊢
  have hr : (D.getD x []).length = 5 := by
    refine h.2 _ ?_
    rw [List.getD_eq_getElem?_getD, List.getElem?_eq_getElem (by rw [h.1]; exact hx)]
    exact List.getElem_mem _
  by_cases e : x = a
  · subst e
    have e1 : (D.set x ((D.getD x []).set y (min ((D.getD x []).getD y 0) s))).getD x [] = (D.getD x []).set y (min ((D.getD x []).getD y 0) s) := by
      rw [List.getD_eq_getElem?_getD, List.getElem?_set_self (by rw [h.1]; exact hx)]; rfl
    rw [e1]
    by_cases e2 : y = b
    · subst e2
      rw [List.getD_eq_getElem?_getD, List.getElem?_set_self (by rw [hr]; exact hy)]; simp
    · rw [List.getD_eq_getElem?_getD, List.getElem?_set_ne e2, ← List.getD_eq_getElem?_getD, if_neg (by simp [e2])]
  · have e1 : (D.set x ((D.getD x []).set y (min ((D.getD x []).getD y 0) s))).getD a [] = D.getD a [] := by
      rw [List.getD_eq_getElem?_getD, List.getElem?_set_ne e, ← List.getD_eq_getElem?_getD]
    rw [e1, if_neg (by simp [e])]
theorem ent_fold (c : Nat → Nat → Nat) (a b : Nat) : ∀ (us : List ((Nat × Nat) × Nat × Nat)) (D : List (List Int)), Sq D → (∀ u ∈ us, u.1.1 < 5 ∧ u.1.2 < 5) →
    ent (us.foldl (fun D u => updD (saidN c u.2.1 u.2.2 : Nat) D u.1) D) a b = (us.filter fun u => decide (u.1 = (a, b))).foldl (fun (e : Int) u => min e ((saidN c u.2.1 u.2.2 : Nat) : Int)) (ent D a b)
  | [], D, _, _ => rfl
  | u :: us, D, h, hu => by
    have h1 := hu u (by simp)
    rw [List.foldl_cons, ent_fold c a b us _ (updD_sq h u.1 h1.1) fun v hv => hu v (by simp [hv]), ent_upd h h1 a b]
    by_cases e : u.1 = (a, b)
    · rw [if_pos e, List.filter_cons_of_pos (by simp [e]), List.foldl_cons]
    · rw [if_neg e, List.filter_cons_of_neg (by simp [e])]
theorem items_ok : ∀ u ∈ itemsU, u.1.1 < 5 ∧ u.1.2 < 5 := by decide
theorem ent_least (c : Nat → Nat → Nat) (a b : Nat) (ha : a < 5) (hb : b < 5) : ent (leastOf c 5) a b = (itemsU.filter fun u => decide (u.1 = (a, b))).foldl (fun (e : Int) u => min e ((saidN c u.2.1 u.2.2 : Nat) : Int)) 128 := by
  rw [least_items, ent_fold c a b itemsU (List.replicate 5 (List.replicate 5 128)) (least_sq c 0) items_ok]
  congr 1
  show (((List.replicate 5 (List.replicate 5 (128 : Int)))).getD a []).getD b 0 = 128
  have e : (List.replicate 5 (List.replicate 5 (128 : Int))).getD a [] = List.replicate 5 128 := by
    rw [List.getD_eq_getElem?_getD, List.getElem?_replicate, if_pos ha]; rfl
  rw [e, List.getD_eq_getElem?_getD, List.getElem?_replicate, if_pos hb]
  rfl
section said
variable {p q : Nat}
theorem sub_r : q - max p q = 0 := Nat.sub_eq_zero_of_le (Nat.le_max_right _ _)
theorem sub_l : q - max q p = 0 := Nat.sub_eq_zero_of_le (Nat.le_max_left _ _)
end said
theorem said_all {p0 p1 p2 : Nat} (h : Four p0 p1 p2) : (corN p0 p1 p2 = 0 ∧ sprN p0 p1 p2 = p0 - max p1 p2 ∧ p1 - max p0 p2 = 0 ∧ p2 - max p0 p1 = 0) ∨
    (corN p0 p1 p2 = 1 ∧ sprN p0 p1 p2 = p1 - max p0 p2 ∧ p0 - max p1 p2 = 0 ∧ p2 - max p0 p1 = 0) ∨ (corN p0 p1 p2 = 2 ∧ sprN p0 p1 p2 = p2 - max p0 p1 ∧ p0 - max p1 p2 = 0 ∧ p1 - max p0 p2 = 0) := by
  obtain ⟨_, _, _, h⟩ := h
  rcases h with ⟨rfl, h⟩ | ⟨rfl, h⟩ | ⟨rfl, h⟩
  · exact .inl ⟨cor0 h, by rw [Nat.max_self]; exact spr0 h, sub_r, sub_r⟩
  · rcases Nat.lt_or_eq_of_le h with h | rfl
    · exact .inr (.inl ⟨cor1 h, by rw [Nat.max_self]; exact spr1 (Nat.le_of_lt h), sub_r, sub_l⟩)
    · exact .inl ⟨cor0 h, by rw [Nat.max_self]; exact spr0 h, sub_r, sub_r⟩
  · rcases Nat.lt_or_eq_of_le h with h | rfl
    · exact .inr (.inr ⟨cor2 h, by rw [Nat.max_self]; exact spr2 (Nat.le_of_lt h), sub_l, sub_l⟩)
    · exact .inl ⟨cor0 h, by rw [Nat.max_self]; exact spr0 h, sub_r, sub_r⟩
section said
variable {c : Nat → Nat → Nat} {left : Nat} (h : Four (sumK c left 0) (sumK c left 1) (sumK c left 2))
include h
theorem said0 : saidN c left 0 = sumK c left 0 - max (sumK c left 1) (sumK c left 2) := by
  unfold saidN corL sprL
  rcases said_all h with ⟨e, d, a, b⟩ | ⟨e, d, a, b⟩ | ⟨e, d, a, b⟩
  · rw [e, d]; rfl
  · rw [e, a]; rfl
  · rw [e, a]; rfl
theorem said1 : saidN c left 1 = sumK c left 1 - max (sumK c left 0) (sumK c left 2) := by
  unfold saidN corL sprL
  rcases said_all h with ⟨e, d, a, b⟩ | ⟨e, d, a, b⟩ | ⟨e, d, a, b⟩
  · rw [e, a]; rfl
  · rw [e, d]; rfl
  · rw [e, b]; rfl
theorem said2 : saidN c left 2 = sumK c left 2 - max (sumK c left 0) (sumK c left 1) := by
  unfold saidN corL sprL
  rcases said_all h with ⟨e, d, a, b⟩ | ⟨e, d, a, b⟩ | ⟨e, d, a, b⟩
  · rw [e, b]; rfl
  · rw [e, b]; rfl
  · rw [e, d]; rfl
theorem said_lt (k : Nat) : saidN c left k < 49 := by
  unfold saidN
  split
  · exact Nat.lt_of_le_of_lt (Nat.sub_le _ _) (Nat.max_lt.mpr ⟨h.1, Nat.max_lt.mpr ⟨h.2.1, h.2.2.1⟩⟩)
  · decide
end said
theorem four_le {ab ac ad bc bd cd : Nat} (h1 : min ab bd ≤ ad) (h2 : min ac cd ≤ ad) (h3 : min ab ac ≤ bc) (h4 : min bd cd ≤ bc) : min (ab + cd) (ac + bd) ≤ ad + bc := by
  have lo : ∀ {p q r : Nat}, min p q ≤ r → p ≤ q → p ≤ r := fun h h' => by rw [Nat.min_eq_left h'] at h; exact h
  have hi : ∀ {p q r : Nat}, min p q ≤ r → q ≤ p → q ≤ r := fun h h' => by rw [Nat.min_eq_right h'] at h; exact h
  have l : ab ≤ ad → cd ≤ bc → min (ab + cd) (ac + bd) ≤ ad + bc := fun x y => Nat.le_trans (Nat.min_le_left _ _) (Nat.add_le_add x y)
  have l' : cd ≤ ad → ab ≤ bc → min (ab + cd) (ac + bd) ≤ ad + bc := fun x y => Nat.le_trans (Nat.min_le_left _ _) (Nat.le_trans (Nat.le_of_eq (Nat.add_comm _ _)) (Nat.add_le_add x y))
  have r : ac ≤ ad → bd ≤ bc → min (ab + cd) (ac + bd) ≤ ad + bc := fun x y => Nat.le_trans (Nat.min_le_right _ _) (Nat.add_le_add x y)
  have r' : bd ≤ ad → ac ≤ bc → min (ab + cd) (ac + bd) ≤ ad + bc := fun x y => Nat.le_trans (Nat.min_le_right _ _) (Nat.le_trans (Nat.le_of_eq (Nat.add_comm _ _)) (Nat.add_le_add x y))
  rcases Nat.le_total ab bd with a | a
  · rcases Nat.le_total cd bd with b | b
    · exact l (lo h1 a) (hi h4 b)
    · rcases Nat.le_total ac cd with c | c
      · exact r (lo h2 c) (lo h4 b)
      · exact l' (hi h2 c) (lo h3 (Nat.le_trans a (Nat.le_trans b c)))
  · rcases Nat.le_total ac ab with b | b
    · exact r' (hi h1 a) (hi h3 b)
    · rcases Nat.le_total cd ac with c | c
      · exact l' (hi h2 c) (lo h3 b)
      · exact r (lo h2 c) (lo h4 (Nat.le_trans a (Nat.le_trans b c)))
theorem two_least {p0 p1 p2 : Nat} (h1 : min p0 p1 ≤ p2) (h2 : min p0 p2 ≤ p1) (h3 : min p1 p2 ≤ p0) : (p1 = p2 ∧ p1 ≤ p0) ∨ (p0 = p2 ∧ p0 ≤ p1) ∨ (p0 = p1 ∧ p0 ≤ p2) := by lia
theorem four_point {ab ac ad bc bd cd : Nat} (h1 : Tri ab ac bc) (h2 : Tri ab ad bd) (h3 : Tri ac ad cd) (h4 : Tri bc bd cd) (b0 : ab + cd < 49) (b1 : ac + bd < 49) (b2 : ad + bc < 49) : Four (ab + cd) (ac + bd) (ad + bc) := by
  refine ⟨b0, b1, b2, two_least ?_ ?_ ?_⟩
  · exact four_le h2.rot'.le h3.rot'.le h1.le h4.rot.rot.le
  · exact four_le h1.rot'.le h3.rot.rot.le h2.le h4.rot'.le
  · exact four_le h1.rot.rot.le h2.rot.rot.le h3.le h4.le
theorem fold3 (a b d : Nat) {p q : Nat} (ha : a < 49) (h : min d (min b a) = p + q) : min (min (min (128 : Int) (a : Nat)) (b : Nat)) (d : Nat) = (p : Nat) + (q : Nat) := by
  have e1 : ∀ x y : Nat, min (x : Int) (y : Int) = ((min x y : Nat) : Int) := by lia
  show min (min (min ((128 : Nat) : Int) (a : Nat)) (b : Nat)) (d : Nat) = (p : Nat) + (q : Nat)
  rw [e1, e1, e1, ← Int.natCast_add, ← h, Nat.min_eq_right (Nat.le_of_lt (Nat.lt_trans ha (by decide))), Nat.min_comm d, Nat.min_comm a b]
section sums
variable {a b c d a' b' c' d' s t u s' t' u' : Nat}
theorem cadd (h : a = a') (h' : b = b') : a + b = a' + b' := by rw [h, h']
theorem cadx (h : a = b') (h' : b = a') : a + b = a' + b' := by rw [h, h', Nat.add_comm]
theorem eqs (h : s = s') (h1 : t = t') (h2 : u = u') : s - max t u = s' - max t' u' := by rw [h, h1, h2]
theorem eqx (h : s = s') (h1 : t = u') (h2 : u = t') : s - max t u = s' - max t' u' := by rw [h, h1, h2, Nat.max_comm]
end sums
theorem plg {R : List (List Int)} (i j x y z : Nat) {a b d : Nat} (ha : a = Lc R i j + Lc R y z - max (Lc R i y + Lc R j z) (Lc R i z + Lc R j y)) (hb : b = Lc R i j + Lc R x z - max (Lc R i x + Lc R j z) (Lc R i z + Lc R j x))
    (hd : d = Lc R i j + Lc R x y - max (Lc R i x + Lc R j y) (Lc R i y + Lc R j x)) (lt : a < 49) : min (min (min (128 : Int) (a : Nat)) (b : Nat)) (d : Nat) = ((Lc R i j - max (Lc R i x) (max (Lc R i y) (Lc R i z)) : Nat) : Int) + ((min (Lc R x y) (Lc R x z) - max (Lc R i x) (Lc R j x) : Nat) : Int) := by
  refine fold3 a b d lt ?_
  rw [ha, hb, hd]
  exact quint (Lc_tri R i j x) (Lc_tri R i j y) (Lc_tri R i j z) (Lc_tri R i x y) (Lc_tri R i x z) (Lc_tri R i y z) (Lc_tri R j x y) (Lc_tri R j x z) (Lc_tri R j y z) (Lc_tri R x y z)

theorem pl_01 {R : List (List Int)} (h4 : ∀ left, left < 5 → Four (sumK (Lc R) left 0) (sumK (Lc R) left 1) (sumK (Lc R) left 2)) : ent (leastOf (Lc R) 5) 0 1 = (countsOf R 5).getD 3 0 + (countsOf R 5).getD 28 0 := by
  rw [ent_least (Lc R) 0 1 (by decide) (by decide), show (itemsU.filter fun u => decide (u.1 = (0, 1))) = [((0, 1), 2, 0), ((0, 1), 3, 0), ((0, 1), 4, 0)] from by decide, cpg R 3 0 1 2 3 4 (by decide) (by decide) (by decide), ctg R 28 0 1 2 3 4 (by decide) (by decide) (by decide)]
  exact plg 0 1 2 3 4
    ((said0 (h4 2 (by decide))).trans (show Lc R 0 1 + Lc R 3 4 - max (Lc R 0 3 + Lc R 1 4) (Lc R 0 4 + Lc R 1 3) = _ from eqs (cadd rfl rfl) (cadd rfl rfl) (cadd rfl rfl)))
    ((said0 (h4 3 (by decide))).trans (show Lc R 0 1 + Lc R 2 4 - max (Lc R 0 2 + Lc R 1 4) (Lc R 0 4 + Lc R 1 2) = _ from eqs (cadd rfl rfl) (cadd rfl rfl) (cadd rfl rfl)))
    ((said0 (h4 4 (by decide))).trans (show Lc R 0 1 + Lc R 2 3 - max (Lc R 0 2 + Lc R 1 3) (Lc R 0 3 + Lc R 1 2) = _ from eqs (cadd rfl rfl) (cadd rfl rfl) (cadd rfl rfl)))
    (said_lt (h4 2 (by decide)) _)

theorem pl_02 {R : List (List Int)} (h4 : ∀ left, left < 5 → Four (sumK (Lc R) left 0) (sumK (Lc R) left 1) (sumK (Lc R) left 2)) : ent (leastOf (Lc R) 5) 0 2 = (countsOf R 5).getD 5 0 + (countsOf R 5).getD 26 0 := by
  rw [ent_least (Lc R) 0 2 (by decide) (by decide), show (itemsU.filter fun u => decide (u.1 = (0, 2))) = [((0, 2), 1, 0), ((0, 2), 3, 1), ((0, 2), 4, 1)] from by decide, cpg R 5 0 2 1 3 4 (by decide) (by decide) (by decide), ctg R 26 0 2 1 3 4 (by decide) (by decide) (by decide)]
  exact plg 0 2 1 3 4
    ((said0 (h4 1 (by decide))).trans (show Lc R 0 2 + Lc R 3 4 - max (Lc R 0 3 + Lc R 2 4) (Lc R 0 4 + Lc R 2 3) = _ from eqs (cadd rfl rfl) (cadd rfl rfl) (cadd rfl rfl)))
    ((said1 (h4 3 (by decide))).trans (show Lc R 0 2 + Lc R 1 4 - max (Lc R 0 1 + Lc R 2 4) (Lc R 0 4 + Lc R 1 2) = _ from eqs (cadd rfl rfl) (cadd rfl rfl) (cadd rfl (Lc_comm R 1 2))))
    ((said1 (h4 4 (by decide))).trans (show Lc R 0 2 + Lc R 1 3 - max (Lc R 0 1 + Lc R 2 3) (Lc R 0 3 + Lc R 1 2) = _ from eqs (cadd rfl rfl) (cadd rfl rfl) (cadd rfl (Lc_comm R 1 2))))
    (said_lt (h4 1 (by decide)) _)

theorem pl_03 {R : List (List Int)} (h4 : ∀ left, left < 5 → Four (sumK (Lc R) left 0) (sumK (Lc R) left 1) (sumK (Lc R) left 2)) : ent (leastOf (Lc R) 5) 0 3 = (countsOf R 5).getD 9 0 + (countsOf R 5).getD 22 0 := by
  rw [ent_least (Lc R) 0 3 (by decide) (by decide), show (itemsU.filter fun u => decide (u.1 = (0, 3))) = [((0, 3), 1, 1), ((0, 3), 2, 1), ((0, 3), 4, 2)] from by decide, cpg R 9 0 3 1 2 4 (by decide) (by decide) (by decide), ctg R 22 0 3 1 2 4 (by decide) (by decide) (by decide)]
  exact plg 0 3 1 2 4
    ((said1 (h4 1 (by decide))).trans (show Lc R 0 3 + Lc R 2 4 - max (Lc R 0 2 + Lc R 3 4) (Lc R 0 4 + Lc R 2 3) = _ from eqs (cadd rfl rfl) (cadd rfl rfl) (cadd rfl (Lc_comm R 2 3))))
    ((said1 (h4 2 (by decide))).trans (show Lc R 0 3 + Lc R 1 4 - max (Lc R 0 1 + Lc R 3 4) (Lc R 0 4 + Lc R 1 3) = _ from eqs (cadd rfl rfl) (cadd rfl rfl) (cadd rfl (Lc_comm R 1 3))))
    ((said2 (h4 4 (by decide))).trans (show Lc R 0 3 + Lc R 1 2 - max (Lc R 0 1 + Lc R 2 3) (Lc R 0 2 + Lc R 1 3) = _ from eqs (cadd rfl rfl) (cadd rfl (Lc_comm R 2 3)) (cadd rfl (Lc_comm R 1 3))))
    (said_lt (h4 1 (by decide)) _)

theorem pl_04 {R : List (List Int)} (h4 : ∀ left, left < 5 → Four (sumK (Lc R) left 0) (sumK (Lc R) left 1) (sumK (Lc R) left 2)) : ent (leastOf (Lc R) 5) 0 4 = (countsOf R 5).getD 17 0 + (countsOf R 5).getD 14 0 := by
  rw [ent_least (Lc R) 0 4 (by decide) (by decide), show (itemsU.filter fun u => decide (u.1 = (0, 4))) = [((0, 4), 1, 2), ((0, 4), 2, 2), ((0, 4), 3, 2)] from by decide, cpg R 17 0 4 1 2 3 (by decide) (by decide) (by decide), ctg R 14 0 4 1 2 3 (by decide) (by decide) (by decide)]
  exact plg 0 4 1 2 3
    ((said2 (h4 1 (by decide))).trans (show Lc R 0 4 + Lc R 2 3 - max (Lc R 0 2 + Lc R 3 4) (Lc R 0 3 + Lc R 2 4) = _ from eqs (cadd rfl rfl) (cadd rfl (Lc_comm R 3 4)) (cadd rfl (Lc_comm R 2 4))))
    ((said2 (h4 2 (by decide))).trans (show Lc R 0 4 + Lc R 1 3 - max (Lc R 0 1 + Lc R 3 4) (Lc R 0 3 + Lc R 1 4) = _ from eqs (cadd rfl rfl) (cadd rfl (Lc_comm R 3 4)) (cadd rfl (Lc_comm R 1 4))))
    ((said2 (h4 3 (by decide))).trans (show Lc R 0 4 + Lc R 1 2 - max (Lc R 0 1 + Lc R 2 4) (Lc R 0 2 + Lc R 1 4) = _ from eqs (cadd rfl rfl) (cadd rfl (Lc_comm R 2 4)) (cadd rfl (Lc_comm R 1 4))))
    (said_lt (h4 1 (by decide)) _)

theorem pl_12 {R : List (List Int)} (h4 : ∀ left, left < 5 → Four (sumK (Lc R) left 0) (sumK (Lc R) left 1) (sumK (Lc R) left 2)) : ent (leastOf (Lc R) 5) 1 2 = (countsOf R 5).getD 6 0 + (countsOf R 5).getD 25 0 := by
  rw [ent_least (Lc R) 1 2 (by decide) (by decide), show (itemsU.filter fun u => decide (u.1 = (1, 2))) = [((1, 2), 0, 0), ((1, 2), 3, 2), ((1, 2), 4, 2)] from by decide, cpg R 6 1 2 0 3 4 (by decide) (by decide) (by decide), ctg R 25 1 2 0 3 4 (by decide) (by decide) (by decide)]
  exact plg 1 2 0 3 4
    ((said0 (h4 0 (by decide))).trans (show Lc R 1 2 + Lc R 3 4 - max (Lc R 1 3 + Lc R 2 4) (Lc R 1 4 + Lc R 2 3) = _ from eqs (cadd rfl rfl) (cadd rfl rfl) (cadd rfl rfl)))
    ((said2 (h4 3 (by decide))).trans (show Lc R 0 4 + Lc R 1 2 - max (Lc R 0 1 + Lc R 2 4) (Lc R 0 2 + Lc R 1 4) = _ from eqs (cadx rfl rfl) (cadd (Lc_comm R 0 1) rfl) (cadx (Lc_comm R 0 2) rfl)))
    ((said2 (h4 4 (by decide))).trans (show Lc R 0 3 + Lc R 1 2 - max (Lc R 0 1 + Lc R 2 3) (Lc R 0 2 + Lc R 1 3) = _ from eqs (cadx rfl rfl) (cadd (Lc_comm R 0 1) rfl) (cadx (Lc_comm R 0 2) rfl)))
    (said_lt (h4 0 (by decide)) _)

theorem pl_13 {R : List (List Int)} (h4 : ∀ left, left < 5 → Four (sumK (Lc R) left 0) (sumK (Lc R) left 1) (sumK (Lc R) left 2)) : ent (leastOf (Lc R) 5) 1 3 = (countsOf R 5).getD 10 0 + (countsOf R 5).getD 21 0 := by
  rw [ent_least (Lc R) 1 3 (by decide) (by decide), show (itemsU.filter fun u => decide (u.1 = (1, 3))) = [((1, 3), 0, 1), ((1, 3), 2, 2), ((1, 3), 4, 1)] from by decide, cpg R 10 1 3 0 2 4 (by decide) (by decide) (by decide), ctg R 21 1 3 0 2 4 (by decide) (by decide) (by decide)]
  exact plg 1 3 0 2 4
    ((said1 (h4 0 (by decide))).trans (show Lc R 1 3 + Lc R 2 4 - max (Lc R 1 2 + Lc R 3 4) (Lc R 1 4 + Lc R 2 3) = _ from eqs (cadd rfl rfl) (cadd rfl rfl) (cadd rfl (Lc_comm R 2 3))))
    ((said2 (h4 2 (by decide))).trans (show Lc R 0 4 + Lc R 1 3 - max (Lc R 0 1 + Lc R 3 4) (Lc R 0 3 + Lc R 1 4) = _ from eqs (cadx rfl rfl) (cadd (Lc_comm R 0 1) rfl) (cadx (Lc_comm R 0 3) rfl)))
    ((said1 (h4 4 (by decide))).trans (show Lc R 0 2 + Lc R 1 3 - max (Lc R 0 1 + Lc R 2 3) (Lc R 0 3 + Lc R 1 2) = _ from eqs (cadx rfl rfl) (cadd (Lc_comm R 0 1) (Lc_comm R 2 3)) (cadx (Lc_comm R 0 3) rfl)))
    (said_lt (h4 0 (by decide)) _)

theorem pl_14 {R : List (List Int)} (h4 : ∀ left, left < 5 → Four (sumK (Lc R) left 0) (sumK (Lc R) left 1) (sumK (Lc R) left 2)) : ent (leastOf (Lc R) 5) 1 4 = (countsOf R 5).getD 18 0 + (countsOf R 5).getD 13 0 := by
  rw [ent_least (Lc R) 1 4 (by decide) (by decide), show (itemsU.filter fun u => decide (u.1 = (1, 4))) = [((1, 4), 0, 2), ((1, 4), 2, 1), ((1, 4), 3, 1)] from by decide, cpg R 18 1 4 0 2 3 (by decide) (by decide) (by decide), ctg R 13 1 4 0 2 3 (by decide) (by decide) (by decide)]
  exact plg 1 4 0 2 3
    ((said2 (h4 0 (by decide))).trans (show Lc R 1 4 + Lc R 2 3 - max (Lc R 1 2 + Lc R 3 4) (Lc R 1 3 + Lc R 2 4) = _ from eqs (cadd rfl rfl) (cadd rfl (Lc_comm R 3 4)) (cadd rfl (Lc_comm R 2 4))))
    ((said1 (h4 2 (by decide))).trans (show Lc R 0 3 + Lc R 1 4 - max (Lc R 0 1 + Lc R 3 4) (Lc R 0 4 + Lc R 1 3) = _ from eqs (cadx rfl rfl) (cadd (Lc_comm R 0 1) (Lc_comm R 3 4)) (cadx (Lc_comm R 0 4) rfl)))
    ((said1 (h4 3 (by decide))).trans (show Lc R 0 2 + Lc R 1 4 - max (Lc R 0 1 + Lc R 2 4) (Lc R 0 4 + Lc R 1 2) = _ from eqs (cadx rfl rfl) (cadd (Lc_comm R 0 1) (Lc_comm R 2 4)) (cadx (Lc_comm R 0 4) rfl)))
    (said_lt (h4 0 (by decide)) _)

theorem pl_23 {R : List (List Int)} (h4 : ∀ left, left < 5 → Four (sumK (Lc R) left 0) (sumK (Lc R) left 1) (sumK (Lc R) left 2)) : ent (leastOf (Lc R) 5) 2 3 = (countsOf R 5).getD 12 0 + (countsOf R 5).getD 19 0 := by
  rw [ent_least (Lc R) 2 3 (by decide) (by decide), show (itemsU.filter fun u => decide (u.1 = (2, 3))) = [((2, 3), 0, 2), ((2, 3), 1, 2), ((2, 3), 4, 0)] from by decide, cpg R 12 2 3 0 1 4 (by decide) (by decide) (by decide), ctg R 19 2 3 0 1 4 (by decide) (by decide) (by decide)]
  exact plg 2 3 0 1 4
    ((said2 (h4 0 (by decide))).trans (show Lc R 1 4 + Lc R 2 3 - max (Lc R 1 2 + Lc R 3 4) (Lc R 1 3 + Lc R 2 4) = _ from eqs (cadx rfl rfl) (cadd (Lc_comm R 1 2) rfl) (cadx (Lc_comm R 1 3) rfl)))
    ((said2 (h4 1 (by decide))).trans (show Lc R 0 4 + Lc R 2 3 - max (Lc R 0 2 + Lc R 3 4) (Lc R 0 3 + Lc R 2 4) = _ from eqs (cadx rfl rfl) (cadd (Lc_comm R 0 2) rfl) (cadx (Lc_comm R 0 3) rfl)))
    ((said0 (h4 4 (by decide))).trans (show Lc R 0 1 + Lc R 2 3 - max (Lc R 0 2 + Lc R 1 3) (Lc R 0 3 + Lc R 1 2) = _ from eqs (cadx rfl rfl) (cadd (Lc_comm R 0 2) (Lc_comm R 1 3)) (cadx (Lc_comm R 0 3) (Lc_comm R 1 2))))
    (said_lt (h4 0 (by decide)) _)

theorem pl_24 {R : List (List Int)} (h4 : ∀ left, left < 5 → Four (sumK (Lc R) left 0) (sumK (Lc R) left 1) (sumK (Lc R) left 2)) : ent (leastOf (Lc R) 5) 2 4 = (countsOf R 5).getD 20 0 + (countsOf R 5).getD 11 0 := by
  rw [ent_least (Lc R) 2 4 (by decide) (by decide), show (itemsU.filter fun u => decide (u.1 = (2, 4))) = [((2, 4), 0, 1), ((2, 4), 1, 1), ((2, 4), 3, 0)] from by decide, cpg R 20 2 4 0 1 3 (by decide) (by decide) (by decide), ctg R 11 2 4 0 1 3 (by decide) (by decide) (by decide)]
  exact plg 2 4 0 1 3
    ((said1 (h4 0 (by decide))).trans (show Lc R 1 3 + Lc R 2 4 - max (Lc R 1 2 + Lc R 3 4) (Lc R 1 4 + Lc R 2 3) = _ from eqs (cadx rfl rfl) (cadd (Lc_comm R 1 2) (Lc_comm R 3 4)) (cadx (Lc_comm R 1 4) rfl)))
    ((said1 (h4 1 (by decide))).trans (show Lc R 0 3 + Lc R 2 4 - max (Lc R 0 2 + Lc R 3 4) (Lc R 0 4 + Lc R 2 3) = _ from eqs (cadx rfl rfl) (cadd (Lc_comm R 0 2) (Lc_comm R 3 4)) (cadx (Lc_comm R 0 4) rfl)))
    ((said0 (h4 3 (by decide))).trans (show Lc R 0 1 + Lc R 2 4 - max (Lc R 0 2 + Lc R 1 4) (Lc R 0 4 + Lc R 1 2) = _ from eqs (cadx rfl rfl) (cadd (Lc_comm R 0 2) (Lc_comm R 1 4)) (cadx (Lc_comm R 0 4) (Lc_comm R 1 2))))
    (said_lt (h4 0 (by decide)) _)

theorem pl_34 {R : List (List Int)} (h4 : ∀ left, left < 5 → Four (sumK (Lc R) left 0) (sumK (Lc R) left 1) (sumK (Lc R) left 2)) : ent (leastOf (Lc R) 5) 3 4 = (countsOf R 5).getD 24 0 + (countsOf R 5).getD 7 0 := by
  rw [ent_least (Lc R) 3 4 (by decide) (by decide), show (itemsU.filter fun u => decide (u.1 = (3, 4))) = [((3, 4), 0, 0), ((3, 4), 1, 0), ((3, 4), 2, 0)] from by decide, cpg R 24 3 4 0 1 2 (by decide) (by decide) (by decide), ctg R 7 3 4 0 1 2 (by decide) (by decide) (by decide)]
  exact plg 3 4 0 1 2
    ((said0 (h4 0 (by decide))).trans (show Lc R 1 2 + Lc R 3 4 - max (Lc R 1 3 + Lc R 2 4) (Lc R 1 4 + Lc R 2 3) = _ from eqs (cadx rfl rfl) (cadd (Lc_comm R 1 3) (Lc_comm R 2 4)) (cadx (Lc_comm R 1 4) (Lc_comm R 2 3))))
    ((said0 (h4 1 (by decide))).trans (show Lc R 0 2 + Lc R 3 4 - max (Lc R 0 3 + Lc R 2 4) (Lc R 0 4 + Lc R 2 3) = _ from eqs (cadx rfl rfl) (cadd (Lc_comm R 0 3) (Lc_comm R 2 4)) (cadx (Lc_comm R 0 4) (Lc_comm R 2 3))))
    ((said0 (h4 2 (by decide))).trans (show Lc R 0 1 + Lc R 3 4 - max (Lc R 0 3 + Lc R 1 4) (Lc R 0 4 + Lc R 1 3) = _ from eqs (cadx rfl rfl) (cadd (Lc_comm R 0 3) (Lc_comm R 1 4)) (cadx (Lc_comm R 0 4) (Lc_comm R 1 3))))
    (said_lt (h4 0 (by decide)) _)

theorem plain_law {R : List (List Int)} (h4 : ∀ left, left < 5 → Four (sumK (Lc R) left 0) (sumK (Lc R) left 1) (sumK (Lc R) left 2)) : coloursOf (Lc R) = beginsOf R := by
  have e1 : coloursOf (Lc R) = [ent (leastOf (Lc R) 5) 0 1, ent (leastOf (Lc R) 5) 0 2, ent (leastOf (Lc R) 5) 0 3, ent (leastOf (Lc R) 5) 0 4, ent (leastOf (Lc R) 5) 1 2, ent (leastOf (Lc R) 5) 1 3, ent (leastOf (Lc R) 5) 1 4, ent (leastOf (Lc R) 5) 2 3, ent (leastOf (Lc R) 5) 2 4, ent (leastOf (Lc R) 5) 3 4] := rfl
  have e2 : beginsOf R = [(countsOf R 5).getD 3 0 + (countsOf R 5).getD 28 0, (countsOf R 5).getD 5 0 + (countsOf R 5).getD 26 0, (countsOf R 5).getD 9 0 + (countsOf R 5).getD 22 0, (countsOf R 5).getD 17 0 + (countsOf R 5).getD 14 0, (countsOf R 5).getD 6 0 + (countsOf R 5).getD 25 0, (countsOf R 5).getD 10 0 + (countsOf R 5).getD 21 0, (countsOf R 5).getD 18 0 + (countsOf R 5).getD 13 0, (countsOf R 5).getD 12 0 + (countsOf R 5).getD 19 0, (countsOf R 5).getD 20 0 + (countsOf R 5).getD 11 0, (countsOf R 5).getD 24 0 + (countsOf R 5).getD 7 0] := rfl
  rw [e1, e2, pl_01 h4, pl_02 h4, pl_03 h4, pl_04 h4, pl_12 h4, pl_13 h4, pl_14 h4, pl_23 h4, pl_24 h4, pl_34 h4]

theorem four_law {R : List (List Int)} (hb : ∀ i j k l, i < j → k < l → j < 5 → l < 5 → i ≠ k → i ≠ l → j ≠ k → j ≠ l → Lc R i j + Lc R k l < 49) : ∀ left, left < 5 → Four (sumK (Lc R) left 0) (sumK (Lc R) left 1) (sumK (Lc R) left 2) := by
  intro left hl
  have key : ∀ a b c d, a < b → b < c → c < d → d < 5 → Four (Lc R a b + Lc R c d) (Lc R a c + Lc R b d) (Lc R a d + Lc R b c) := fun a b c d h1 h2 h3 h4 =>
    four_point (Lc_tri R a b c) (Lc_tri R a b d) (Lc_tri R a c d) (Lc_tri R b c d) (hb a b c d (by lia) (by lia) (by lia) (by lia) (by lia) (by lia) (by lia) (by lia))
      (hb a c b d (by lia) (by lia) (by lia) (by lia) (by lia) (by lia) (by lia) (by lia)) (hb a d b c (by lia) (by lia) (by lia) (by lia) (by lia) (by lia) (by lia) (by lia))
  have : left = 0 ∨ left = 1 ∨ left = 2 ∨ left = 3 ∨ left = 4 := by lia
  rcases this with rfl | rfl | rfl | rfl | rfl
  · exact key 1 2 3 4 (by decide) (by decide) (by decide) (by decide)
  · exact key 0 2 3 4 (by decide) (by decide) (by decide) (by decide)
  · exact key 0 1 3 4 (by decide) (by decide) (by decide) (by decide)
  · exact key 0 1 2 4 (by decide) (by decide) (by decide) (by decide)
  · exact key 0 1 2 3 (by decide) (by decide) (by decide) (by decide)

theorem wordsOf_pre : ∀ (r : List Int) (ws : List (List Int)), ws <+: r.foldl (fun ws c => ws ++ [wordOf ws c]) ws
  | [], ws => List.prefix_rfl
  | c :: r, ws => (List.prefix_append _ _).trans (wordsOf_pre r (ws ++ [wordOf ws c]))
theorem wordsOf_at (cs : List Int) (i : Nat) (h : i < cs.length) : ((wordsOf cs).getD i []).length ≤ 2 * (i + 1) := by
  have hp : wordsOf (cs.take (i + 1)) <+: wordsOf cs := by
    conv => rhs; rw [← List.take_append_drop (i + 1) cs]
    unfold wordsOf
    rw [List.foldl_append]
    exact wordsOf_pre _ _
  have hl : (wordsOf (cs.take (i + 1))).length = i + 1 := by rw [wordsOf_length, List.length_take]; lia
  obtain ⟨t, ht⟩ := hp
  have e : (wordsOf cs).getD i [] = (wordsOf (cs.take (i + 1))).getD i [] := by
    rw [← ht, List.getD_eq_getElem?_getD, List.getElem?_append_left (by lia), ← List.getD_eq_getElem?_getD]
  have := wordsOf_len (cs.take (i + 1)) _ (List.mem_of_getElem? (i := i) (a := (wordsOf (cs.take (i + 1))).getD i []) (by rw [List.getD_eq_getElem?_getD, List.getElem?_eq_getElem (by lia)]; rfl))
  rw [e]
  rw [List.length_take] at this
  lia

noncomputable def rowOf (L : Nat → Nat → Nat) (i : Nat) : List Int := (List.range 5).map fun j => if i < j then ((L i j : Nat) : Int) else 0
noncomputable def matOf (L : Nat → Nat → Nat) : List (List Int) := (List.range 5).map (rowOf L)
theorem mat_sq (L : Nat → Nat → Nat) : Sq (matOf L) := by
  refine ⟨by simp [matOf], fun r hr => ?_⟩
  obtain ⟨i, -, rfl⟩ := List.mem_map.mp hr
  simp [rowOf]
theorem mat_get (L : Nat → Nat → Nat) (i j : Nat) (h : i < j) (hj : j < 5) : ((matOf L).getD i []).getD j 0 = (L i j : Nat) := by
  have e1 : (matOf L).getD i [] = rowOf L i := by
    unfold matOf
    rw [List.getD_eq_getElem?_getD, List.getElem?_map, List.getElem?_range (by lia)]; rfl
  rw [e1]
  unfold rowOf
  rw [List.getD_eq_getElem?_getD, List.getElem?_map, List.getElem?_range hj]
  simp [h]
theorem words_bound {W : List (List Int)} (hl : ∀ i, i < 5 → (W.getD i []).length ≤ 8 * (i + 1)) : ∀ i j k l, i < j → k < l → j < 5 → l < 5 → i ≠ k → i ≠ l → j ≠ k → j ≠ l → Lc W i j + Lc W k l < 49 := by
  intro i j k l h1 h2 h3 h4 h5 h6 h7 h8
  have a := Lc_le W i j
  have b := Lc_le W k l
  have c := hl i (by lia)
  have d := hl k (by lia)
  lia

theorem law_run {G : Gl} (hK : G.K = hd.heap_39 G.w.params) {s : Shared} (hH : G.H₀ = s.heap) {a : Addr} {vs : List Value} {xs : List Int} (ha : G.H₀.IsList a (List.toArray vs)) (hxs : IntsAre vs xs) (hl : xs.length ≤ 1000) {R : Result → Shared → Prop}
   (hR : ∀ h' tk, (∀ b o, s.heap.get? b = some o → h'.get? b = some o) → R (.ok (.ret (.bool true))) { s with heap := h', toks := tk }) : codeAny (model G.prog G.w) callerA (.call (.ref 131) ⟨[.ref a], []⟩) R s := by
  refine' run_top (n := 7) (vs := [.top (.ref a)]) (loc := [(Str.ofString "script", .top (.ref a))]) (cn := [Str.ofString "heard", Str.ofString "sent", Str.ofString "words", Str.ofString "codes"]) (cs := [.cell none, .cell none, .cell none, .cell none]) [Str.ofString "script"] ?ho ?hcd ?hb ?hkx ?hnc ?hnd ?hco ?hgen ?hkk ?hloc ?hcs hH ?hus ?hdd ?huu ?hbody hR
  case ho => rw [hK]; k_is
  case hcd => rw [hK]; k_is
  case hb => rfl
  case hkx => decide
  case hnc => rfl
  case hnd => decide
  case hco => rfl
  case hgen => rfl
  case hkk => rfl
  case hloc => rfl
  case hcs => rfl
  case hus => exact ⟨rfl, trivial⟩
  case hdd => decide +kernel
  case huu => decide +kernel
  intro cx hsc hcc
  replace hcc : cx.cells = [(Str.ofString "heard", 0), (Str.ofString "sent", 1), (Str.ofString "words", 2), (Str.ofString "codes", 3)] := hcc
  obtain ⟨σ₀, hσ₀, c0, c1, c2, c3⟩ : ∃ σ₀ : List MO, σ₀ = [.cell none, .cell none, .cell none, .cell none] ∧ σ₀[0]? = some (.cell none) ∧ σ₀[1]? = some (.cell none) ∧ σ₀[2]? = some (.cell none) ∧ σ₀[3]? = some (.cell none) := ⟨_, rfl, rfl, rfl, rfl, rfl⟩
  have hlen₀ : σ₀.length = 4 := by rw [hσ₀]; rfl
  rw [← hσ₀]
  clear hσ₀
  repeat wtm_at "step"
  refine codes_c hK ha hxs hl ?_
  intro σ₁ kc cs p₁ e₁ hc5 hc0
  have hkc : 4 ≤ kc := by
    rcases Nat.lt_or_ge kc 4 with h | h
    · exfalso
      have : kc = 0 ∨ kc = 1 ∨ kc = 2 ∨ kc = 3 := by lia
      unfold LI at e₁
      rcases this with rfl | rfl | rfl | rfl
      · rw [pget p₁ c0] at e₁; cases e₁
      · rw [pget p₁ c1] at e₁; cases e₁
      · rw [pget p₁ c2] at e₁; cases e₁
      · rw [pget p₁ c3] at e₁; cases e₁
    · exact h
  have d0 := pget p₁ c0
  have d1 := pget p₁ c1
  have d2 := pget p₁ c2
  have d3 := pget p₁ c3
  clear c0 c1 c2 c3
  repeat wtm_at "step"
  intro σ₂ q₂ b₂ e₂ a₂
  have f0 := (b₂ 0 (by decide)).trans d0
  have f1 := (b₂ 1 (by decide)).trans d1
  have f2 := (b₂ 2 (by decide)).trans d2
  have fc : LI σ₂ kc cs := (b₂ kc (by lia)).trans e₁
  clear d0 d1 d2 d3 e₁
  repeat wtm_at "step"
  refine words_c hK (by decide) fc hc0 (by lia) ?_
  intro σ₃ kw ks p₃ e₃ hks
  have hW5 : (wordsOf cs).length = 5 := by rw [wordsOf_length]; exact hc5
  have hW6 := wordsOf_six cs
  have hWl : ∀ i, i < 5 → ((wordsOf cs).getD i []).length ≤ 2 * (i + 1) := fun i hi => wordsOf_at cs i (by lia)
  generalize wordsOf cs = W at hks hW5 hW6 hWl
  have hk5 : ks.length = 5 := by rw [hks.length]; exact hW5
  have d0 := pget p₃ f0
  have d1 := pget p₃ f1
  have d2 := pget p₃ f2
  have d3 := pget p₃ e₂
  have dc : LI σ₃ kc cs := pget p₃ fc
  clear f0 f1 f2 e₂ fc
  repeat wtm_at "step"
  intro σ₄ q₄ b₄ e₄ a₄
  have hne : ∀ {τ : List MO} {k m : Nat} {xs : List MV} {v : Option MV}, τ[k]? = some (.list xs) → τ[m]? = some (.cell v) → k ≠ m := by
    rintro τ k m xs v h1 h2 rfl
    rw [h1] at h2; cases h2
  have f0 := (b₄ 0 (by decide)).trans d0
  have f1 := (b₄ 1 (by decide)).trans d1
  have f3 := (b₄ 3 (by decide)).trans d3
  have fc : LI σ₄ kc cs := (b₄ kc (by lia)).trans dc
  have fw := (b₄ kw (hne e₃ d2)).trans e₃
  have fks : LIs σ₄ ks W := hks.mono fun k hk ns h => by
    unfold LI at h ⊢
    rw [b₄ k (hne h d2)]; exact h
  clear d0 d1 d2 d3 dc e₃ hks b₄ a₄ q₄ p₃ q₂ b₂ a₂ p₁
  repeat wtm_at "step"
  refine WS.assignA ?_ (noswap_cell (name_of hsc rfl))
  refine WE.comp turn1 ⟨by decide, by rw [hcc]; rfl, rfl, by decide⟩ ?_ (by intro _ _; rfl)
  repeat wtm_at "step"
  intro σ₅ k₅ p₅ e₅ l₅
  refine CompFrom.one (Src.rng e₅ (by decide) (by decide) (by decide) (by decide)) (fun _ _ => trivial) (by rw [rngL_length]; decide) (fun _ => true) (fun k => .str (S (txt ((W.getD k []).map sentRow)))) ?_ ?_
  · intro cx' k x loc₁ σ' hcx hx hp
    obtain ⟨hk, rfl⟩ := rngL_get hx
    have hk5' : k < 5 := by lia
    have hsc' : cx'.scope = { kind := .function, names := [(Str.ofString ".0", .local), (Str.ofString "k", .local), (Str.ofString "quotedata", .globalImplicit), (Str.ofString "_law_mail", .globalImplicit), (Str.ofString "codes", .cell), (Str.ofString "words", .cell)], isGenerator := false, isCoroutine := false } := by
      rw [hcx]
      show relabelM _ cx = _
      unfold relabelM
      rw [hsc]
      rfl
    have hcc' : cx'.cells = [(Str.ofString "words", 2), (Str.ofString "codes", 3)] := by
      rw [hcx]
      show idx (cellNames _) _ ++ freeIdx cx.cells _ [] = _
      rw [hcc]
      rfl
    clear hsc hcc hcx
    have g2 := pget (p₅.trans hp) e₄
    have g3 := pget (p₅.trans hp) f3
    have gw := pget (p₅.trans hp) fw
    have gc := pget (p₅.trans hp) fc
    have hWk : W[k]? = some (W.getD k []) := by rw [List.getD_eq_getElem?_getD, List.getElem?_eq_getElem (by lia)]; rfl
    obtain ⟨kk, hkk, hlk⟩ := fks.get' hWk
    have hw6 := hW6 _ (List.mem_of_getElem? hWk)
    have hwl := hWl k hk5'
    have glk : LI σ' kk (W.getD k []) := pget (p₅.trans hp) hlk
    rw [show (0 + (k : Int)) = (k : Int) by lia]
    generalize W.getD k [] = w at hWk hlk hw6 hwl glk
    have hck : cs[k]? = some cs[k] := List.getElem?_eq_getElem (by lia)
    generalize cs[k] = code at hck
    repeat wtm_at "step"
    refine ⟨rfl, List.prefix_rfl, fun _ => ?_⟩
    repeat wtm_at "step"
    refine OS.list (v := .obj kk) gw (by lia) (by rw [List.length_map]; lia) (by rw [List.length_map]; lia) (by unfold ixOf; rw [if_pos (by lia)]; simp [hkk]) ?_ (by intro _ _; exact ⟨_, rfl⟩)
    repeat wtm_at "step"
    refine OS.list (v := .int code) gc (by lia) (by rw [List.length_map]; lia) (by rw [List.length_map]; lia) (by unfold ixOf; rw [if_pos (by lia)]; simp [hck]) ?_ (by intro _ _; exact ⟨_, rfl⟩)
    repeat wtm_at "step"
    refine mail_c hK glk hw6 (by lia) ?_
    intro σ'' p''
    have hml := mailRows_len code w 0 hw6
    repeat wtm_at "step"
    refine quoted_c hK (by lia) ?_
    rw [crlf_mail code w 0 hw6, dots_mail w hw6]
    exact ⟨rfl, p''⟩
  intro σ₆ p₆ e₆
  have e₆' : σ₆[σ₅.length]? = some (.list ((List.range 5).map fun k => MV.str (S (txt ((W.getD k []).map sentRow))))) := by
    rw [e₆, rngL_length]; rfl
  clear e₆
  generalize σ₅.length = ksn at e₆'
  have pp := p₅.trans p₆
  have d0 := pget pp f0
  have d1 := pget pp f1
  have d2 := pget pp e₄
  have dw := pget pp fw
  have dks : LIs σ₆ ks W := fks.mono fun k hk ns h => pget pp h
  clear f0 f1 f3 e₄ fw fks fc pp p₅ p₆ e₅ l₅
  repeat wtm_at "step"
  intro σ₇ q₇ b₇ e₇ a₇
  have f0 := (b₇ 0 (by decide)).trans d0
  have f2 := (b₇ 2 (by decide)).trans d2
  have fw := (b₇ kw (hne dw d1)).trans dw
  have fsn := (b₇ ksn (hne e₆' d1)).trans e₆'
  have fks : LIs σ₇ ks W := dks.mono fun k hk ns h => by
    unfold LI at h ⊢
    rw [b₇ k (hne h d1)]; exact h
  clear d0 d1 d2 dw e₆' dks b₇ a₇ q₇
  repeat wtm_at "step"
  -- told
  refine WS_assignComp turn1 ⟨by decide, by rfl, rfl, by decide⟩ ?_ (by intro _ _; rfl) (by rw [hsc]; decide) (kind_of hsc rfl)
  repeat wtm_at "step"
  refine CompFrom.objs (Src.list fw) (fun σ' hp => pget hp fw) (by simp; lia) (fun i => toldOf (W.getD i [])) ?_ ?_
  · intro cx' i x loc₁ σ' hcx hx hp hcells hlen
    rw [List.getElem?_map, Option.map_eq_some_iff] at hx
    obtain ⟨kk, hkk, rfl⟩ := hx
    have hi5 : i < 5 := by have := (List.getElem?_eq_some_iff.mp hkk).1; lia
    have hsc' : cx'.scope = { kind := .function, names := [(Str.ofString ".0", .local), (Str.ofString "word", .local), (Str.ofString "_law_told", .globalImplicit)], isGenerator := false, isCoroutine := false } := by
      rw [hcx]
      show relabelM _ cx = _
      unfold relabelM
      rw [hsc]
      rfl
    clear hsc hcc hcx
    obtain ⟨w, hWk, hlk⟩ := fks.get hkk
    have hw6 := hW6 _ (List.mem_of_getElem? hWk)
    have hwl := hWl i hi5
    have eW : W.getD i [] = w := by rw [List.getD_eq_getElem?_getD, hWk]; rfl
    rw [eW] at hwl
    have glk : LI σ' kk w := pget hp hlk
    repeat wtm_at "step"
    refine told_c hK glk hw6 (by lia) ?_
    intro σ'' j p'' hge hL
    exact ⟨j, rfl, hp.trans p'', KeptC.of_pre p'', hcells.pre p'', hge, by rw [eW]; exact hL⟩
  intro σ₈ kt p₈ e₈ hkt hndt hgtt
  have hkt' : LIs σ₈ kt ((List.range 5).map fun i => toldOf (W.getD i [])) := by
    rw [List.length_map, hk5] at hkt; exact hkt
  clear hkt
  generalize σ₇.length = ktl at e₈ hgtt
  have d0 := pget p₈ f0
  have d1 := pget p₈ e₇
  have d2 := pget p₈ f2
  have dw := pget p₈ fw
  have dsn := pget p₈ fsn
  have dks : LIs σ₈ ks W := fks.mono fun k hk ns h => pget p₈ h
  clear f0 e₇ f2 fw fsn fks p₈ hndt hgtt
  repeat wtm_at "step"
  -- heard
  refine WS.assignA ?_ (noswap_cell (name_of hsc rfl))
  refine WE.comp turn1 ⟨by decide, by rfl, rfl, by decide⟩ ?_ (by intro _ _; rfl)
  repeat wtm_at "step"
  refine CompFrom.objs (Src.list dsn) (fun σ' hp => pget hp dsn) (by simp) (fun i => toldOf (W.getD i [])) ?_ ?_
  · intro cx' i x loc₁ σ' hcx hx hp hcells hlen
    have hi5 : i < 5 := by have := (List.getElem?_eq_some_iff.mp hx).1; simpa using this
    rw [List.getElem?_map, List.getElem?_range hi5] at hx
    cases hx
    have hsc' : cx'.scope = { kind := .function, names := [(Str.ofString ".0", .local), (Str.ofString "text", .local), (Str.ofString "_law_read", .globalImplicit)], isGenerator := false, isCoroutine := false } := by
      rw [hcx]
      show relabelM _ cx = _
      unfold relabelM
      rw [hsc]
      rfl
    clear hsc hcc hcx
    have hWk : W[i]? = some (W.getD i []) := by rw [List.getD_eq_getElem?_getD, List.getElem?_eq_getElem (by lia)]; rfl
    have hw6 := hW6 _ (List.mem_of_getElem? hWk)
    have hwl := hWl i hi5
    repeat wtm_at "step"
    refine read_c hK hw6 (by lia) ?_
    intro σ'' j p'' hge hL
    exact ⟨j, rfl, hp.trans p'', KeptC.of_pre p'', hcells.pre p'', hge, hL⟩
  intro σ₉ kh p₉ e₉ hkh hndh hgth
  have hkh' : LIs σ₉ kh ((List.range 5).map fun i => toldOf (W.getD i [])) := by
    simp only [List.length_map, List.length_range] at hkh; exact hkh
  clear hkh
  generalize σ₈.length = khl at e₉ hgth
  have g0 := pget p₉ d0
  have g1 := pget p₉ d1
  have g2 := pget p₉ d2
  have gw := pget p₉ dw
  have gsn := pget p₉ dsn
  have gks : LIs σ₉ ks W := dks.mono fun k hk ns h => pget p₉ h
  have gt := pget p₉ e₈
  have gkt : LIs σ₉ kt _ := hkt'.mono fun k hk ns h => pget p₉ h
  clear d0 d1 d2 dw dsn dks e₈ hkt' p₉ hndh hgth
  repeat wtm_at "step"
  intro σ₁₀ q₁₀ b₁₀ e₁₀ a₁₀
  have f1 := (b₁₀ 1 (by decide)).trans g1
  have f2 := (b₁₀ 2 (by decide)).trans g2
  have fw := (b₁₀ kw (hne gw g0)).trans gw
  have fsn := (b₁₀ ksn (hne gsn g0)).trans gsn
  have ft := (b₁₀ ktl (hne gt g0)).trans gt
  have fh := (b₁₀ khl (hne e₉ g0)).trans e₉
  have hmv : ∀ {l : List Nat} {D : List (List Int)}, LIs σ₉ l D → LIs σ₁₀ l D := fun h => h.mono fun k hk ns h => by
    unfold LI at h ⊢
    rw [b₁₀ k (hne h g0)]; exact h
  have fks := hmv gks
  have fkt := hmv gkt
  have fkh := hmv hkh'
  clear g0 g1 g2 gw gsn gt e₉ gks gkt hkh' b₁₀ a₁₀ q₁₀ hmv
  repeat wtm_at "step"
  refine OC.neLL fh fkh ft fkt (by decide) ?_
  rw [decide_eq_true rfl]
  repeat wtm_at "step"
  refine ⟨fun h => absurd h (by decide), fun _ => ?_⟩
  repeat wtm_at "step"
  -- by_rows
  refine WS_assignComp turn1 ⟨by decide, by rw [hcc]; rfl, rfl, by decide⟩ ?_ (by intro _ _; rfl) (by rw [hsc]; decide) (kind_of hsc rfl)
  repeat wtm_at "step"
  intro σ₁₁ k₁₁ p₁₁ e₁₁ l₁₁
  refine CompFrom.objs (Src.rng e₁₁ (by decide) (by decide) (by decide) (by decide)) (fun _ _ => trivial) (by rw [rngL_length]; decide) (rowOf (Lc W)) ?_ ?_
  · intro cx' i x loc₁ σ' hcx hx hp hcells hlen
    obtain ⟨hi, rfl⟩ := rngL_get hx
    have hi5 : i < 5 := by lia
    replace hcells : CellsAt σ' σ₁₁.length 1 := hcells
    replace hlen : σ₁₁.length + 1 < σ'.length := hlen
    show WA G 7 cx' _ _ _ _ fun loc₁ σ₂ => WE G 7 cx' _ loc₁ σ₂ fun v σ₄ => ∃ j, v = .obj j ∧ σ₁₁ <+: σ₄ ∧ KeptC σ₁₁.length 1 σ' σ₄ ∧ CellsAt σ₄ σ₁₁.length 1 ∧ σ'.length ≤ j ∧ LI σ₄ j (rowOf (Lc W) i)
    obtain ⟨vi, hvi⟩ := hcells (σ₁₁.length + 1) (by lia) (Nat.le_refl _)
    have hsc' : cx'.scope = { kind := .function, names := [(Str.ofString ".0", .local), (Str.ofString "i", .cell), (Str.ofString "range", .globalImplicit), (Str.ofString "sent", .cell)], isGenerator := false, isCoroutine := false } := by
      rw [hcx]
      show relabelM _ cx = _
      unfold relabelM
      rw [hsc]
      rfl
    have hcc' : cx'.cells = [(Str.ofString "i", σ₁₁.length + 1), (Str.ofString "sent", 1)] := by
      rw [hcx]
      show idx (cellNames _) _ ++ freeIdx cx.cells _ [] = _
      rw [hcc]
      rfl
    clear hsc hcc hcx
    have g1 := pget (p₁₁.trans hp) f1
    have gsn := pget (p₁₁.trans hp) fsn
    have hc1 : σ₁₁.length + 1 ≠ 1 := by
      have := (List.getElem?_eq_some_iff.mp (pget p₁₁ f1)).1
      lia
    have hcsn : ksn ≠ σ₁₁.length + 1 := hne gsn hvi
    rw [show (0 + (i : Int)) = (i : Int) by lia]
    repeat wtm_at "step"
    intro τ₁ r₁ b₁ d₁ a₁
    have pτ := a₁ _ hp (Nat.le_succ _)
    have t1 := (b₁ 1 (Ne.symm hc1)).trans g1
    have tsn := (b₁ ksn hcsn).trans gsn
    refine WE.comp turn1 ⟨by decide, by rw [hcc']; rfl, rfl, by decide⟩ ?_ (by intro _ _; rfl)
    repeat wtm_at "step"
    intro τ₂ k₂ r₂ d₂ m₂
    refine CompFrom.one (Src.rng d₂ (by decide) (by decide) (by decide) (by decide)) (fun _ _ => trivial) (by rw [rngL_length]; decide) (fun _ => true) (fun j => .int (if i < j then ((Lc W i j : Nat) : Int) else 0)) ?_ ?_
    · intro cx'' j x loc₂ τ₃ hcx hx hp3
      obtain ⟨hj, rfl⟩ := rngL_get hx
      have hj5 : j < 5 := by lia
      have hsc'' : cx''.scope = { kind := .function, names := [(Str.ofString ".0", .local), (Str.ofString "j", .local), (Str.ofString "_law_asked", .globalImplicit), (Str.ofString "i", .cell), (Str.ofString "sent", .cell)], isGenerator := false, isCoroutine := false } := by
        rw [hcx]
        show relabelM _ cx' = _
        unfold relabelM
        rw [hsc']
        rfl
      have hcc'' : cx''.cells = [(Str.ofString "sent", 1), (Str.ofString "i", σ₁₁.length + 1)] := by
        rw [hcx]
        show idx (cellNames _) _ ++ freeIdx cx'.cells _ [] = _
        rw [hcc']
        rfl
      clear hsc' hcc' hcx
      have u1 := pget (r₂.trans hp3) t1
      have usn := pget (r₂.trans hp3) tsn
      have ui := pget (r₂.trans hp3) d₁
      rw [show (0 + (j : Int)) = (j : Int) by lia]
      repeat wtm_at "step"
      refine ⟨rfl, List.prefix_rfl, fun _ => ?_⟩
      repeat wtm_at "step"
      refine ⟨fun h => ?_, fun h => ?_⟩
      · have hij : i < j := by have := of_decide_eq_true h; lia
        have hWi : W[i]? = some (W.getD i []) := by rw [List.getD_eq_getElem?_getD, List.getElem?_eq_getElem (by lia)]; rfl
        have hWj : W[j]? = some (W.getD j []) := by rw [List.getD_eq_getElem?_getD, List.getElem?_eq_getElem (by lia)]; rfl
        have h6i := hW6 _ (List.mem_of_getElem? hWi)
        have h6j := hW6 _ (List.mem_of_getElem? hWj)
        have hli := hWl i hi5
        have hlj := hWl j hj5
        repeat wtm_at "step"
        refine OS.list (v := .str (S (txt ((W.getD i []).map sentRow)))) usn (by lia) (by simp; lia) (by simp) (by unfold ixOf; rw [if_pos (by lia)]; simp [hi5]) ?_ (by intro _ _; exact ⟨_, rfl⟩)
        repeat wtm_at "step"
        refine OS.list (v := .str (S (txt ((W.getD j []).map sentRow)))) usn (by lia) (by simp; lia) (by simp) (by unfold ixOf; rw [if_pos (by lia)]; simp [hj5]) ?_ (by intro _ _; exact ⟨_, rfl⟩)
        repeat wtm_at "step"
        have hrs : ∀ (w : List Int), (∀ x ∈ w, 0 ≤ x ∧ x < 6) → ∀ r ∈ w.map sentRow, RowOk r := fun w hw r hr => by
          obtain ⟨x, hx, rfl⟩ := List.mem_map.mp hr
          exact sentRow_ok (hw x hx)
        refine asked_c hK (hrs _ h6i) (by rw [List.length_map]; lia) (by have := txt_len _ (hrs _ h6j); rw [List.length_map] at this; lia) ?_
        intro τ₄ p₄
        rw [fit_words h6i h6j]
        refine ⟨?_, p₄⟩
        rw [if_pos hij]
        rfl
      · have hij : ¬ i < j := by have := of_decide_eq_false h; lia
        repeat wtm_at "step"
        refine ⟨?_, List.prefix_rfl⟩
        rw [if_neg hij]
    · intro τ₃ hp3 d₃
      have q3 := r₂.trans hp3
      refine ⟨_, rfl, pτ.trans q3, fun m hm hm' => ?_, fun m h1 h2 => ?_, ?_, ?_⟩
      · rw [pget q3 ((b₁ m (by lia)).trans (List.getElem?_eq_getElem hm)), List.getElem?_eq_getElem hm]
      · have : m = σ₁₁.length + 1 := by lia
        subst this
        exact ⟨_, pget q3 d₁⟩
      · have := r₂.length_le; lia
      · unfold LI rowOf
        rw [d₃, rngL_length, List.map_map]
        rfl
  intro σ₁₂ kr p₁₂ e₁₂ hkr hndr hgtr
  replace hkr : LIs σ₁₂ kr (matOf (Lc W)) := hkr
  generalize σ₁₁.length = krl at e₁₂ hgtr
  have pp := p₁₁.trans p₁₂
  have g1 := pget pp f1
  have g2 := pget pp f2
  have gw := pget pp fw
  have gt := pget pp ft
  have gh := pget pp fh
  have g0 := pget pp e₁₀
  have gks : LIs σ₁₂ ks W := fks.mono fun k hk ns h => pget pp h
  have gkt : LIs σ₁₂ kt _ := fkt.mono fun k hk ns h => pget pp h
  have gkh : LIs σ₁₂ kh _ := fkh.mono fun k hk ns h => pget pp h
  clear f1 f2 fw fsn ft fh e₁₀ fks fkt fkh pp p₁₁ p₁₂ e₁₁ l₁₁ hndr hgtr
  have hfW := four_law (R := W) (words_bound fun i hi => by have := hWl i hi; lia)
  repeat wtm_at "step"
  refine colours_c (cc := Lc W) hK e₁₂ hkr (mat_sq _) (mat_get _) hfW ?_
  intro σ₁₃ jc p₁₃ hjc
  repeat wtm_at "step"
  have hw13 := pget p₁₃ gw
  have hks13 : LIs σ₁₃ ks W := gks.mono fun k hk ns h => pget p₁₃ h
  refine begins_c hK (by decide) hw13 hks13 hW5 (fun r hr => by
    obtain ⟨i, hi, rfl⟩ := List.getElem_of_mem hr
    have := hWl i (by lia)
    rw [List.getD_eq_getElem?_getD, List.getElem?_eq_getElem hi, Option.getD_some] at this
    lia) ?_
  intro σ₁₄ jb p₁₄ hjb
  refine OC.neL (xs := coloursOf (Lc W)) (ys := beginsOf W) (pget p₁₄ hjc) hjb (by decide) ?_
  rw [decide_eq_true (plain_law hfW)]
  repeat wtm_at "step"
  refine ⟨fun h => absurd h (by decide), fun _ => ?_⟩
  have pq := p₁₃.trans p₁₄
  have f0 := pget pq g0
  have ft := pget pq gt
  have fh := pget pq gh
  have fkt : LIs σ₁₄ kt _ := gkt.mono fun k hk ns h => pget pq h
  have fkh : LIs σ₁₄ kh _ := gkh.mono fun k hk ns h => pget pq h
  clear g0 g1 g2 gw gt gh gks gkt gkh pq p₁₃ p₁₄ hjc hjb hw13 hks13 e₁₂ hkr hfW
  repeat wtm_at "step"
  have hT5 : ((List.range 5).map fun i => toldOf (W.getD i [])).length = 5 := by simp
  have hTg : ∀ i, i < 5 → ((List.range 5).map fun i => toldOf (W.getD i [])).getD i [] = toldOf (W.getD i []) := fun i hi => by
    rw [List.getD_eq_getElem?_getD, List.getElem?_map, List.getElem?_range hi]; rfl
  have hTl : ∀ i, i < 5 → (((List.range 5).map fun i => toldOf (W.getD i [])).getD i []).length ≤ 8 * (i + 1) := fun i hi => by
    rw [hTg i hi]
    have hWi : W[i]? = some (W.getD i []) := by rw [List.getD_eq_getElem?_getD, List.getElem?_eq_getElem (by lia)]; rfl
    have h1 := toldOf_len _ (hW6 _ (List.mem_of_getElem? hWi))
    have h2 := hWl i hi
    lia
  clear hTg hWl hW6
  generalize ((List.range 5).map fun i => toldOf (W.getD i [])) = T at fkt fkh hT5 hTl
  -- by_numbers
  refine WS_assignComp turn1 ⟨by decide, by rw [hcc]; rfl, rfl, by decide⟩ ?_ (by intro _ _; rfl) (by rw [hsc]; decide) (kind_of hsc rfl)
  repeat wtm_at "step"
  intro σ₁₅ k₁₅ p₁₅ e₁₅ l₁₅
  refine CompFrom.objs (Src.rng e₁₅ (by decide) (by decide) (by decide) (by decide)) (fun _ _ => trivial) (by rw [rngL_length]; decide) (rowOf (Lc T)) ?_ ?_
  · intro cx' i x loc₁ σ' hcx hx hp hcells hlen
    obtain ⟨hi, rfl⟩ := rngL_get hx
    have hi5 : i < 5 := by lia
    replace hcells : CellsAt σ' σ₁₅.length 1 := hcells
    replace hlen : σ₁₅.length + 1 < σ'.length := hlen
    show WA G 7 cx' _ _ _ _ fun loc₁ σ₂ => WE G 7 cx' _ loc₁ σ₂ fun v σ₄ => ∃ j, v = .obj j ∧ σ₁₅ <+: σ₄ ∧ KeptC σ₁₅.length 1 σ' σ₄ ∧ CellsAt σ₄ σ₁₅.length 1 ∧ σ'.length ≤ j ∧ LI σ₄ j (rowOf (Lc T) i)
    obtain ⟨vi, hvi⟩ := hcells (σ₁₅.length + 1) (by lia) (Nat.le_refl _)
    have hsc' : cx'.scope = { kind := .function, names := [(Str.ofString ".0", .local), (Str.ofString "i", .cell), (Str.ofString "range", .globalImplicit), (Str.ofString "heard", .cell)], isGenerator := false, isCoroutine := false } := by
      rw [hcx]
      show relabelM _ cx = _
      unfold relabelM
      rw [hsc]
      rfl
    have hcc' : cx'.cells = [(Str.ofString "i", σ₁₅.length + 1), (Str.ofString "heard", 0)] := by
      rw [hcx]
      show idx (cellNames _) _ ++ freeIdx cx.cells _ [] = _
      rw [hcc]
      rfl
    clear hsc hcc hcx
    have g0 := pget (p₁₅.trans hp) f0
    have gh := pget (p₁₅.trans hp) fh
    have hc1 : σ₁₅.length + 1 ≠ 0 := by lia
    have hch : khl ≠ σ₁₅.length + 1 := hne gh hvi
    rw [show (0 + (i : Int)) = (i : Int) by lia]
    repeat wtm_at "step"
    intro τ₁ r₁ b₁ d₁ a₁
    have pτ := a₁ _ hp (Nat.le_succ _)
    have t0 := (b₁ 0 (Ne.symm hc1)).trans g0
    have th := (b₁ khl hch).trans gh
    have tkh : LIs τ₁ kh T := fkh.mono fun k hk ns h => by
      have := pget (p₁₅.trans hp) h
      unfold LI
      rw [b₁ k (hne this hvi)]; exact this
    refine WE.comp turn1 ⟨by decide, by rw [hcc']; rfl, rfl, by decide⟩ ?_ (by intro _ _; rfl)
    repeat wtm_at "step"
    intro τ₂ k₂ r₂ d₂ m₂
    refine CompFrom.one (Src.rng d₂ (by decide) (by decide) (by decide) (by decide)) (fun _ _ => trivial) (by rw [rngL_length]; decide) (fun _ => true) (fun j => .int (if i < j then ((Lc T i j : Nat) : Int) else 0)) ?_ ?_
    · intro cx'' j x loc₂ τ₃ hcx hx hp3
      obtain ⟨hj, rfl⟩ := rngL_get hx
      have hj5 : j < 5 := by lia
      have hsc'' : cx''.scope = { kind := .function, names := [(Str.ofString ".0", .local), (Str.ofString "j", .local), (Str.ofString "_law_shared", .globalImplicit), (Str.ofString "heard", .cell), (Str.ofString "i", .cell)], isGenerator := false, isCoroutine := false } := by
        rw [hcx]
        show relabelM _ cx' = _
        unfold relabelM
        rw [hsc']
        rfl
      have hcc'' : cx''.cells = [(Str.ofString "i", σ₁₅.length + 1), (Str.ofString "heard", 0)] := by
        rw [hcx]
        show idx (cellNames _) _ ++ freeIdx cx'.cells _ [] = _
        rw [hcc']
        rfl
      clear hsc' hcc' hcx
      have u0 := pget (r₂.trans hp3) t0
      have uh := pget (r₂.trans hp3) th
      have ui := pget (r₂.trans hp3) d₁
      rw [show (0 + (j : Int)) = (j : Int) by lia]
      repeat wtm_at "step"
      refine ⟨rfl, List.prefix_rfl, fun _ => ?_⟩
      repeat wtm_at "step"
      refine ⟨fun h => ?_, fun h => ?_⟩
      · have hij : i < j := by have := of_decide_eq_true h; lia
        have hTi : T[i]? = some (T.getD i []) := by rw [List.getD_eq_getElem?_getD, List.getElem?_eq_getElem (by lia)]; rfl
        have hTj : T[j]? = some (T.getD j []) := by rw [List.getD_eq_getElem?_getD, List.getElem?_eq_getElem (by lia)]; rfl
        have hli := hTl i hi5
        have hlj := hTl j hj5
        obtain ⟨ki, hki, hLi⟩ := tkh.get' hTi
        obtain ⟨kj, hkj, hLj⟩ := tkh.get' hTj
        have hkhl : kh.length = 5 := by rw [tkh.length]; exact hT5
        have uLi : LI τ₃ ki (T.getD i []) := pget (r₂.trans hp3) hLi
        have uLj : LI τ₃ kj (T.getD j []) := pget (r₂.trans hp3) hLj
        repeat wtm_at "step"
        refine OS.list (v := .obj ki) uh (by lia) (by rw [List.length_map]; lia) (by rw [List.length_map]; lia) (by unfold ixOf; rw [if_pos (by lia)]; simp [hki]) ?_ (by intro _ _; exact ⟨_, rfl⟩)
        repeat wtm_at "step"
        refine OS.list (v := .obj kj) uh (by lia) (by rw [List.length_map]; lia) (by rw [List.length_map]; lia) (by unfold ixOf; rw [if_pos (by lia)]; simp [hkj]) ?_ (by intro _ _; exact ⟨_, rfl⟩)
        repeat wtm_at "step"
        refine shared_c hK uLi uLj (by lia) (by lia) ?_
        intro τ₄ p₄
        refine ⟨?_, p₄⟩
        rw [if_pos hij]
        rfl
      · have hij : ¬ i < j := by have := of_decide_eq_false h; lia
        repeat wtm_at "step"
        refine ⟨?_, List.prefix_rfl⟩
        rw [if_neg hij]
    · intro τ₃ hp3 d₃
      have q3 := r₂.trans hp3
      refine ⟨_, rfl, pτ.trans q3, fun m hm hm' => ?_, fun m h1 h2 => ?_, ?_, ?_⟩
      · rw [pget q3 ((b₁ m (by lia)).trans (List.getElem?_eq_getElem hm)), List.getElem?_eq_getElem hm]
      · have : m = σ₁₅.length + 1 := by lia
        subst this
        exact ⟨_, pget q3 d₁⟩
      · have := r₂.length_le; lia
      · unfold LI rowOf
        rw [d₃, rngL_length, List.map_map]
        rfl
  intro σ₁₆ kn p₁₆ e₁₆ hkn hndn hgtn
  replace hkn : LIs σ₁₆ kn (matOf (Lc T)) := hkn
  generalize σ₁₅.length = knl at e₁₆ hgtn
  have pp := p₁₅.trans p₁₆
  have gt := pget pp ft
  have gkt : LIs σ₁₆ kt T := fkt.mono fun k hk ns h => pget pp h
  have hfT := four_law (R := T) (words_bound hTl)
  repeat wtm_at "step"
  refine colours_c (cc := Lc T) hK e₁₆ hkn (mat_sq _) (mat_get _) hfT ?_
  intro σ₁₇ jc p₁₇ hjc
  repeat wtm_at "step"
  have ht17 := pget p₁₇ gt
  have hkt17 : LIs σ₁₇ kt T := gkt.mono fun k hk ns h => pget p₁₇ h
  refine begins_c hK (by decide) ht17 hkt17 hT5 (fun r hr => by
    obtain ⟨i, hi, rfl⟩ := List.getElem_of_mem hr
    have := hTl i (by lia)
    rw [List.getD_eq_getElem?_getD, List.getElem?_eq_getElem hi, Option.getD_some] at this
    lia) ?_
  intro σ₁₈ jb p₁₈ hjb
  refine OC.eqL (xs := coloursOf (Lc T)) (ys := beginsOf T) (pget p₁₈ hjc) hjb (by decide) ?_
  rw [decide_eq_true (plain_law hfT)]
  repeat wtm_at "step"
  rfl

end Mine

theorem PySem.Challenge.cw_ty0009_01_holds : PySem.Challenge.rw_ty0009_01.Holds := by
  refine Mine.hd ?_
  k_fill
  intro w s₀ s₁ mg mb G Y fa o pm cd doc dV kV ho hd hcd hD hmg hg args vals as hpre hlay hrd hwl hlo
  have KX := kIn_of Y
  refine Ground.open G ?_
  intro T B D TE TW
  have hfa : mg (Str.ofString "law") = some (.ref 131) := mg_of (K := Mine.hd.heap_39 w.params) KX T.g (by k_is)
  rw [hfa] at hmg
  wrow_args hpre hlay hrd hwl hlo
  refine enter_call ?_
  w_top on
  refine codeAny_mono ?_ (fun _ _ g => GoodW.toG g)
  rename_i xs hs hlay0 hLay hr1 hl2 as4 as3 a vsl as0 hL ra w1 r0 hI hr hc1 hc2
  cases hmg
  refine Mine.law_run (G := { prog := PySem.Challenge.rw_ty0009_01.row.prog, w := w, K := Mine.hd.heap_39 w.params, p := Mine.hd.view_39, loose := _, mean := _, mg := mg, mb := mb, H₀ := s₁.heap, X := KX, T := T }) rfl rfl hL hI (by lia) ?_
  intro h' tk keep
  refine ⟨.inl ⟨.bool true, .bool true, [], rfl, raisesW_false (by wrow_none_raised), .bool true, ?_, unshared_nil⟩, keep, rfl, hg⟩
  refine' postW_of ?pws ?pwv ?pwe
  case pws => o_shape
  case pwv => wtm_val
  case pwe => w_fin
