import PyProof.Rows.All
import Wide.All
import OpenK.AllK
import Wide.FinOn
import PySem.Challenge.RW_nb0112_02
open PySem PySem.W PySem.W.X PyProof.Rows
set_option maxRecDepth 100000
set_option Elab.async false
set_option linter.unusedVariables false
set_option linter.unusedSimpArgs false
set_option genInjectivity false
set_option genSizeOf false
noncomputable section
namespace Mine
/-! ## The executor -/
noncomputable abbrev Facts := List (Addr × Obj)
noncomputable abbrev Eqs := List (Addr × Addr)
noncomputable def den : Code → Sem Fin := PySem.W.ZFast.zw11892475500146522536 PySem.W.ZFast.tableZ
theorem den_eq : denote table = den := by
  unfold den; rw [PySem.W.ZFast.ze11892475500146522536, PySem.W.ZFast.tableZ_eq]
/-- one node that stays in its tree -/
structure Lo (β : Type) where
  t : Sem β
  fs : Facts
  sz : Nat
  tk : Nat
  eqs : Eqs
  pl : List Nat
noncomputable def stp {β : Type} (P : Setting) (G : Nat → Option Obj) (t : Sem β) (fs : Facts) (sz tk : Nat) (eqs : Eqs) (pl : List Nat) : Option (Lo β) :=
  match t with
  | .rule _ k => some ⟨k (), fs, sz, tk, eqs, pl⟩
  | .at _ k => some ⟨k (), fs, sz, tk, eqs, pl⟩
  | .point _ k => some ⟨k (), fs, sz, tk, eqs, pl⟩
  | .ask k => some ⟨k P, fs, sz, tk, eqs, pl⟩
  | .fresh k => some ⟨k tk, fs, sz, tk + 1, eqs, pl⟩
  | .handled own k => match own with
    | false => some ⟨k none, fs, sz, tk, eqs, pl⟩
    | true => none
  | .alloc o k => match o.isFreed with
    | false => some ⟨k sz, fs ++ [(sz, o)], sz + 1, tk, eqs, pl⟩
    | true => none
  | .load a _ k => match pl with
    | [] => none
    | i :: pl => match i with
      | 0 => match G a with
        | some o => some ⟨k o, fs, sz, tk, eqs, pl⟩
        | none => none
      | i + 1 => match fs[i]? with
        | some bo => some ⟨k bo.2, fs, sz, tk, (a, bo.1) :: eqs, pl⟩
        | none => none
  | .loadIfAlive a k => match pl with
    | [] => none
    | i :: pl => match i with
      | 0 => match G a with
        | some o => some ⟨k (some o), fs, sz, tk, eqs, pl⟩
        | none => none
      | i + 1 => match fs[i]? with
        | some bo => some ⟨k (some bo.2), fs, sz, tk, (a, bo.1) :: eqs, pl⟩
        | none => none
  | .update a _ f k => match pl with
    | [] => none
    | i :: pl => match i with
      | 0 => none
      | i + 1 => match fs[i]? with
        | some bo => match (f bo.2).isFreed with
          | false => some ⟨k (), fs.set i (bo.1, f bo.2), sz, tk, (a, bo.1) :: eqs, pl⟩
          | true => none
        | none => none
  | _ => none
inductive Kn (α : Type) where
  | bot (k : Result → Sem α)
  | ret (c : Code) (k : Result → Sem Fin) (κ : Kn α)
inductive Cur (α : Type) where
  | top (t : Sem α)
  | inn (c : Code) (κ : Kn α) (t : Sem Fin)
structure Mc (α : Type) where
  cur : Cur α
  fs : Facts
  sz : Nat
  tk : Nat
  eqs : Eqs
  pl : List Nat
noncomputable def pop {α : Type} (κ : Kn α) (r : Result) : Cur α := match κ with
  | .bot k => .top (k r)
  | .ret c k κ => .inn c κ (k r)
/-- a node that leaves its tree -/
noncomputable def lv {α : Type} (cur : Cur α) (pl : List Nat) : Option (Cur α × List Nat) :=
  match cur with
  | .top t => match t with
    | .call c hd _ _ k => match hd with
      | none => match pl with
        | i :: pl => match i with
          | 0 => some (.inn c (.bot k) (den c), pl)
          | _ => none
        | [] => none
      | some _ => none
    | _ => none
  | .inn c κ t => match t with
    | .call c' hd _ _ k => match hd with
      | none => match pl with
        | i :: pl => match i with
          | 0 => some (.inn c' (.ret c k κ) (den c'), pl)
          | _ => none
        | [] => none
      | some _ => none
    | .pure fin => match fin with
      | .done f => some (pop κ (.ok f), pl)
      | .again c' => match c'.quiet with
        | true => match pl with
          | i :: pl => match i with
            | 0 => some (.inn c' κ (den c'), pl)
            | _ => none
          | [] => none
        | false => none
    | .raise e => some (pop κ (.error e), pl)
    | _ => none
@[irreducible] noncomputable def ex {α : Type} (P : Setting) (G : Nat → Option Obj) : Nat → Cur α → Facts → Nat → Nat → Eqs → List Nat → Mc α
  | 0, cur, fs, sz, tk, eqs, pl => ⟨cur, fs, sz, tk, eqs, pl⟩
  | n + 1, cur, fs, sz, tk, eqs, pl =>
    match cur with
    | .top t => match stp P G t fs sz tk eqs pl with
      | some l => ex P G n (.top l.t) l.fs l.sz l.tk l.eqs l.pl
      | none => match lv (.top t) pl with
        | some x => ex P G n x.1 fs sz tk eqs x.2
        | none => ⟨.top t, fs, sz, tk, eqs, pl⟩
    | .inn c κ t => match stp P G t fs sz tk eqs pl with
      | some l => ex P G n (.inn c κ l.t) l.fs l.sz l.tk l.eqs l.pl
      | none => match lv (.inn c κ t) pl with
        | some x => ex P G n x.1 fs sz tk eqs x.2
        | none => ⟨.inn c κ t, fs, sz, tk, eqs, pl⟩
/-! ## What a state says -/
structure Rep (G : Nat → Option Obj) (h : Heap) (fs : Facts) (sz : Nat) : Prop where
  size : h.objs.size = sz
  has : ∀ p ∈ fs, h.get? p.1 = some p.2
  nd : (fs.map (·.1)).Nodup
  grd : ∀ a o, G a = some o → h.get? a = some o
  low : ∀ p ∈ fs, G p.1 = none
/-- since h₀ nothing but the objects of fs₀ has changed -/
structure Since (h₀ : Heap) (fs₀ : Facts) (h : Heap) (fs : Facts) : Prop where
  le : h₀.objs.size ≤ h.objs.size
  keep : ∀ b o, h₀.get? b = some o → (∀ x ∈ fs₀, x.1 ≠ b) → h.get? b = some o
  own : ∀ x ∈ fs, (∃ y ∈ fs₀, y.1 = x.1) ∨ h₀.objs.size ≤ x.1
theorem Since.start (h : Heap) (fs : Facts) : Since h fs h fs := ⟨Nat.le_refl _, fun _ _ e _ => e, fun x hx => .inl ⟨x, hx, rfl⟩⟩
section
variable {G : Nat → Option Obj} {h h₀ : Heap} {fs fs₀ : Facts} {sz : Nat}
theorem Rep.at (D : Rep G h fs sz) {i : Nat} {p : Addr × Obj} (e : fs[i]? = some p) : h.get? p.1 = some p.2 := D.has p (List.mem_of_getElem? e)
theorem Rep.alloc (D : Rep G h fs sz) {o : Obj} (hf : o.isFreed = false) : Rep G (h.push o) (fs ++ [(sz, o)]) (sz + 1) := by
  refine ⟨by rw [Heap.size_push, D.size], fun p hp => ?_, ?_, fun a o' e => Heap.get?_push_of_some _ (D.grd a o' e), fun p hp => ?_⟩
  · rcases List.mem_append.mp hp with hp | hp
    · exact Heap.get?_push_of_some _ (D.has p hp)
    · obtain rfl := List.mem_singleton.mp hp
      show (h.push o).get? sz = some o
      rw [← D.size]; exact Heap.get?_push_size _ hf
  · rw [List.map_append]
    refine List.nodup_append.mpr ⟨D.nd, by simp, fun a ha b hb => ?_⟩
    obtain ⟨p, hp, rfl⟩ := List.mem_map.mp ha
    have hb : b = sz := by simpa using hb
    subst hb
    exact D.size ▸ Nat.ne_of_lt (Heap.lt_size (D.has p hp))
  · rcases List.mem_append.mp hp with hp | hp
    · exact D.low p hp
    · obtain rfl := List.mem_singleton.mp hp
      show G sz = none
      cases e : G sz with
      | none => rfl
      | some o' => exact absurd (D.size ▸ Heap.lt_size (D.grd _ _ e)) (Nat.lt_irrefl _)
theorem map_set_fst {fs : Facts} {i : Nat} {p : Addr × Obj} {o : Obj} (e : fs[i]? = some p) : (fs.set i (p.1, o)).map (·.1) = fs.map (·.1) := by
  apply List.ext_getElem?
  intro j
  rw [List.getElem?_map, List.getElem?_map, List.getElem?_set]
  by_cases hij : i = j
  · subst hij
    rw [if_pos rfl, e]
    obtain ⟨hl, _⟩ := List.getElem?_eq_some_iff.mp e
    rw [if_pos hl]; rfl
  · rw [if_neg hij]
theorem Rep.update (D : Rep G h fs sz) {i : Nat} {p : Addr × Obj} {f : Obj → Obj} (e : fs[i]? = some p) (hf : (f p.2).isFreed = false) : Rep G (h.update p.1 f) (fs.set i (p.1, f p.2)) sz := by
  have hs : Heap.SameBut p.1 h (h.update p.1 f) := Heap.SameBut.update ..
  have ho := D.at e
  have em := map_set_fst (o := f p.2) e
  have hnd : ((fs.set i (p.1, f p.2)).map (·.1)).Nodup := by rw [em]; exact D.nd
  obtain ⟨hl, hg⟩ := List.getElem?_eq_some_iff.mp e
  refine ⟨by rw [hs.1, D.size], fun q hq => ?_, hnd, fun a o e' => ?_, fun q hq => ?_⟩
  · obtain ⟨j, hj, hq'⟩ := List.mem_iff_getElem.mp hq
    rw [List.getElem_set] at hq'
    by_cases hij : i = j
    · rw [if_pos hij] at hq'
      subst hq'
      exact Heap.get?_update_self f ho hf
    · rw [if_neg hij] at hq'
      rw [List.length_set] at hj
      have hne : q.1 ≠ p.1 := by
        intro hh
        have h1 : (fs.map (·.1))[i]'(by simpa using hl) = (fs.map (·.1))[j]'(by simpa using hj) := by
          rw [List.getElem_map, List.getElem_map, hg, hq', hh]
        exact hij ((List.getElem_inj D.nd).mp h1)
      rw [hs.2 _ hne]
      exact D.has q (hq' ▸ List.getElem_mem hj)
  · have hne : a ≠ p.1 := by
      intro hh
      have := D.low p (List.mem_of_getElem? e)
      rw [← hh, e'] at this; cases this
    rw [hs.2 _ hne]; exact D.grd a o e'
  · have : q.1 ∈ (fs.set i (p.1, f p.2)).map (·.1) := List.mem_map_of_mem hq
    rw [em] at this
    obtain ⟨r, hr, hrq⟩ := List.mem_map.mp this
    have := D.low r hr
    rwa [hrq] at this
theorem Since.alloc (D : Rep G h fs sz) (S : Since h₀ fs₀ h fs) (o : Obj) : Since h₀ fs₀ (h.push o) (fs ++ [(sz, o)]) := by
  refine ⟨Nat.le_trans S.le (by rw [Heap.size_push]; omega), fun b o' e hx => Heap.get?_push_of_some _ (S.keep b o' e hx), fun x hx => ?_⟩
  rcases List.mem_append.mp hx with hx | hx
  · exact S.own x hx
  · obtain rfl := List.mem_singleton.mp hx
    exact .inr (by show h₀.objs.size ≤ sz; rw [← D.size]; exact S.le)
theorem Since.update (S : Since h₀ fs₀ h fs) {i : Nat} {p : Addr × Obj} {f : Obj → Obj} (e : fs[i]? = some p) : Since h₀ fs₀ (h.update p.1 f) (fs.set i (p.1, f p.2)) := by
  have hs : Heap.SameBut p.1 h (h.update p.1 f) := Heap.SameBut.update ..
  refine ⟨by rw [hs.1]; exact S.le, fun b o e' hx => ?_, fun x hx => ?_⟩
  · have hne : b ≠ p.1 := by
      intro hh
      rcases S.own p (List.mem_of_getElem? e) with ⟨y, hy, hyp⟩ | hle
      · exact hx y hy (hyp.trans hh.symm)
      · exact absurd (Heap.lt_size e') (by rw [hh]; exact Nat.not_lt.mpr hle)
    rw [hs.2 _ hne]; exact S.keep b o e' hx
  · have : x.1 ∈ (fs.set i (p.1, f p.2)).map (·.1) := List.mem_map_of_mem hx
    rw [map_set_fst e] at this
    obtain ⟨r, hr, hrx⟩ := List.mem_map.mp this
    have := S.own r hr
    rwa [hrx] at this
end
noncomputable def AllEq (eqs : Eqs) : Prop := ∀ q ∈ eqs, q.1 = q.2
theorem AllEq.of {eqs : Eqs} (h : eqs.map (·.1) = eqs.map (·.2)) : AllEq eqs := by
  intro q hq
  obtain ⟨j, hj, rfl⟩ := List.mem_iff_getElem.mp hq
  have := congrArg (fun l => l[j]?) h
  simp only [List.getElem?_map, List.getElem?_eq_getElem hj, Option.map_some] at this
  exact Option.some.inj this
section
variable {prog : Program} {w : World} {G : Nat → Option Obj}
open Sem (wp)
theorem stp_sound {β : Type} {Γ : Ctx} {t : Sem β} {h h₀ : Heap} {fs fs₀ : Facts} {sz tk : Nat} {eqs : Eqs} {pl : List Nat} {l : Lo β} {g : Array GenState} {d : Drawn} {os : OsState}
    {Q : β → Pos → Shared → Prop} {E : Value → Pos → Shared → Prop} {p : Pos}
    (e : stp ⟨prog, w.params⟩ G t fs sz tk eqs pl = some l) (D : Rep G h fs sz) (S : Since h₀ fs₀ h fs) (hq : AllEq l.eqs) (hh : Γ.handled = none)
    (K : ∀ p' h', Rep G h' l.fs l.sz → Since h₀ fs₀ h' l.fs → wp (model prog w) Γ l.t Q E p' ⟨h', g, d, l.tk, os⟩) : wp (model prog w) Γ t Q E p ⟨h, g, d, tk, os⟩ := by
  cases t with
  | rule tag k => cases e; exact K p h D S
  | «at» q k => cases e; exact K q h D S
  | point l k => cases e; exact K p h D S
  | ask k => cases e; exact K p h D S
  | fresh k => cases e; exact K p h D S
  | handled own k =>
    cases own with
    | true => cases e
    | false =>
      cases e
      show wp (model prog w) Γ (k Γ.handled) Q E p _
      rw [hh]; exact K p h D S
  | alloc o k =>
    simp only [stp] at e
    split at e
    · rename_i hf
      cases e
      show wp (model prog w) Γ (k h.objs.size) Q E p _
      rw [D.size]
      exact K p _ (D.alloc hf) (Since.alloc D S o)
    · cases e
  | load a q k =>
    simp only [stp] at e
    split at e
    · cases e
    · split at e
      · split at e
        · rename_i o ho
          cases e
          exact ⟨o, D.grd a o ho, K p h D S⟩
        · cases e
      · split at e
        · rename_i bo hb
          cases e
          have ea : a = bo.1 := hq (a, bo.1) (.head _)
          exact ⟨bo.2, by rw [ea]; exact D.at hb, K p h D S⟩
        · cases e
  | loadIfAlive a k =>
    simp only [stp] at e
    split at e
    · cases e
    · split at e
      · split at e
        · rename_i o ho
          cases e
          show wp (model prog w) Γ (k (h.get? a)) Q E p _
          rw [D.grd a o ho]; exact K p h D S
        · cases e
      · split at e
        · rename_i bo hb
          cases e
          have ea : a = bo.1 := hq (a, bo.1) (.head _)
          show wp (model prog w) Γ (k (h.get? a)) Q E p _
          rw [ea, D.at hb]; exact K p h D S
        · cases e
  | update a q f k =>
    simp only [stp] at e
    split at e
    · cases e
    · split at e
      · cases e
      · split at e
        · rename_i bo hb
          split at e
          · rename_i hf
            cases e
            have ea : a = bo.1 := hq (a, bo.1) (.head _)
            subst ea
            exact ⟨by show (h.get? bo.1).isSome = true; rw [D.at hb]; rfl, K p _ (D.update hb hf) (S.update hb)⟩
          · cases e
        · cases e
  | _ => cases e
theorem stp_eqs {β : Type} {P : Setting} {t : Sem β} {fs : Facts} {sz tk : Nat} {eqs : Eqs} {pl : List Nat} {l : Lo β} (e : stp P G t fs sz tk eqs pl = some l) {q : Addr × Addr} (hq : q ∈ eqs) : q ∈ l.eqs := by
  unfold stp at e
  (repeat' split at e) <;> first | (cases e; done) | (cases e; exact hq) | (cases e; exact List.mem_cons_of_mem _ hq)
/-! ## The machine's meaning -/
variable {α : Type}
noncomputable def aro (A : Around) : Kn α → Around
  | .bot _ => A
  | .ret c _ κ => (aro A κ).under c
noncomputable def endK (prog : Program) (w : World) (A : Around) (Q : α → Shared → Prop) (E : Value → Shared → Prop) : Kn α → Result → Shared → Prop
  | .bot k => fun r s => wpAny (model prog w) A (k r) Q E s
  | .ret c k κ => postR prog w (aro A κ) c (postC prog w (aro A κ) (endK prog w A Q E κ)) (postE (endK prog w A Q E κ)) k
noncomputable def Means (prog : Program) (w : World) (A : Around) (Q : α → Shared → Prop) (E : Value → Shared → Prop) (cur : Cur α) (s : Shared) : Prop := match cur with
  | .top t => wpAny (model prog w) A t Q E s
  | .inn c κ t => wpOwn (model prog w) (aro A κ) c t (postC prog w (aro A κ) (endK prog w A Q E κ)) (postE (endK prog w A Q E κ)) s
theorem aro_handled {A : Around} (hA : A.handled = none) : ∀ κ : Kn α, (aro A κ).handled = none
  | .bot _ => hA
  | .ret _ _ κ => aro_handled hA κ
section
variable {A : Around} {Q : α → Shared → Prop} {E : Value → Shared → Prop}
theorem pop_means {κ : Kn α} {r : Result} {s : Shared} (H : Means prog w A Q E (pop κ r) s) : endK prog w A Q E κ r s := by
  cases κ with
  | bot k => exact H
  | ret c k κ => exact H
theorem lv_sound {cur : Cur α} {pl : List Nat} {x : Cur α × List Nat} {s : Shared} (e : lv cur pl = some x) (H : Means prog w A Q E x.1 s) : Means prog w A Q E cur s := by
  unfold lv at e
  cases cur with
  | top t =>
    dsimp only at e
    split at e
    · rename_i c hd g l k
      split at e
      · split at e
        · split at e
          · cases e
            refine y_start _ _ _ _ _ _ _ _ _ _ _ _ (by intro z; cases z) (y_code _ _ _ _ _ _ ?_)
            rw [den_eq]; exact H
          · cases e
        · cases e
      · cases e
    · cases e
  | inn c κ t =>
    dsimp only at e
    split at e
    · rename_i c' hd g l k
      split at e
      · split at e
        · split at e
          · cases e
            refine y_call _ _ _ _ _ _ _ _ _ _ _ _ _ (by intro z; cases z) (y_code _ _ _ _ _ _ ?_)
            rw [den_eq]; exact H
          · cases e
        · cases e
      · cases e
    · split at e
      · cases e
        exact y_pure _ _ _ _ _ _ _ _ _ (y_done _ _ _ _ _ _ (pop_means H))
      · split at e
        · rename_i hq
          split at e
          · split at e
            · cases e
              refine y_pure _ _ _ _ _ _ _ _ _ (y_again _ _ _ _ _ _ hq (y_code _ _ _ _ _ _ ?_))
              rw [den_eq]; exact H
            · cases e
          · cases e
        · cases e
    · cases e
      exact y_raise _ _ _ _ _ _ _ _ _ (y_err _ _ _ (pop_means H))
    · cases e
theorem ex_eqs : ∀ (n : Nat) (cur : Cur α) (fs : Facts) (sz tk : Nat) (eqs : Eqs) (pl : List Nat) {P : Setting} {q : Addr × Addr}, q ∈ eqs → q ∈ (ex P G n cur fs sz tk eqs pl).eqs
  | 0, _, _, _, _, _, _, _, _, hq => by rw [ex]; exact hq
  | n + 1, cur, fs, sz, tk, eqs, pl, P, q, hq => by
    unfold ex
    cases cur with
    | top t =>
      dsimp only
      split
      · rename_i l e
        exact ex_eqs n _ _ _ _ _ _ (stp_eqs e hq)
      · split
        · exact ex_eqs n _ _ _ _ _ _ hq
        · exact hq
    | inn c κ t =>
      dsimp only
      split
      · rename_i l e
        exact ex_eqs n _ _ _ _ _ _ (stp_eqs e hq)
      · split
        · exact ex_eqs n _ _ _ _ _ _ hq
        · exact hq
theorem ex_sound (hA : A.handled = none) {h₀ : Heap} {fs₀ : Facts} {g : Array GenState} {d : Drawn} {os : OsState} : ∀ (n : Nat) (cur : Cur α) (h : Heap) (fs : Facts) (sz tk : Nat) (eqs : Eqs) (pl : List Nat),
    Rep G h fs sz → Since h₀ fs₀ h fs → AllEq (ex ⟨prog, w.params⟩ G n cur fs sz tk eqs pl).eqs →
    (∀ h', Rep G h' (ex ⟨prog, w.params⟩ G n cur fs sz tk eqs pl).fs (ex ⟨prog, w.params⟩ G n cur fs sz tk eqs pl).sz → Since h₀ fs₀ h' (ex ⟨prog, w.params⟩ G n cur fs sz tk eqs pl).fs →
      Means prog w A Q E (ex ⟨prog, w.params⟩ G n cur fs sz tk eqs pl).cur ⟨h', g, d, (ex ⟨prog, w.params⟩ G n cur fs sz tk eqs pl).tk, os⟩) →
    Means prog w A Q E cur ⟨h, g, d, tk, os⟩
  | 0, cur, h, fs, sz, tk, eqs, pl, D, S, _, H => by simp only [ex] at H; exact H h D S
  | n + 1, cur, h, fs, sz, tk, eqs, pl, D, S, hq, H => by
    cases cur with
    | top t =>
      cases e : stp ⟨prog, w.params⟩ G t fs sz tk eqs pl with
      | some l =>
        have ee : ex ⟨prog, w.params⟩ G (n + 1) (.top t) fs sz tk eqs pl = ex ⟨prog, w.params⟩ G n (.top l.t) l.fs l.sz l.tk l.eqs l.pl := by
          rw [ex]; simp only [e]
        rw [ee] at hq H
        intro Γ p hΓ
        refine stp_sound e D S (fun q hm => hq q (ex_eqs n _ _ _ _ _ _ hm)) (hΓ.1.trans hA) fun p' h' D' S' => ?_
        exact ex_sound hA n (.top l.t) h' l.fs l.sz l.tk l.eqs l.pl D' S' hq H Γ p' hΓ
      | none =>
        cases e2 : lv (.top t : Cur α) pl with
        | some x =>
          have ee : ex ⟨prog, w.params⟩ G (n + 1) (.top t) fs sz tk eqs pl = ex ⟨prog, w.params⟩ G n x.1 fs sz tk eqs x.2 := by
            rw [ex]; simp only [e, e2]
          rw [ee] at hq H
          exact lv_sound e2 (ex_sound hA n x.1 h fs sz tk eqs x.2 D S hq H)
        | none =>
          have ee : ex ⟨prog, w.params⟩ G (n + 1) (.top t) fs sz tk eqs pl = ⟨.top t, fs, sz, tk, eqs, pl⟩ := by
            rw [ex]; simp only [e, e2]
          rw [ee] at hq H
          exact H h D S
    | inn c κ t =>
      cases e : stp ⟨prog, w.params⟩ G t fs sz tk eqs pl with
      | some l =>
        have ee : ex ⟨prog, w.params⟩ G (n + 1) (.inn c κ t) fs sz tk eqs pl = ex ⟨prog, w.params⟩ G n (.inn c κ l.t) l.fs l.sz l.tk l.eqs l.pl := by
          rw [ex]; simp only [e]
        rw [ee] at hq H
        intro Γ p hc hΓ
        refine stp_sound e D S (fun q hm => hq q (ex_eqs n _ _ _ _ _ _ hm)) (hΓ.1.trans (aro_handled hA κ)) fun p' h' D' S' => ?_
        exact ex_sound hA n (.inn c κ l.t) h' l.fs l.sz l.tk l.eqs l.pl D' S' hq H Γ p' hc hΓ
      | none =>
        cases e2 : lv (.inn c κ t : Cur α) pl with
        | some x =>
          have ee : ex ⟨prog, w.params⟩ G (n + 1) (.inn c κ t) fs sz tk eqs pl = ex ⟨prog, w.params⟩ G n x.1 fs sz tk eqs x.2 := by
            rw [ex]; simp only [e, e2]
          rw [ee] at hq H
          exact lv_sound e2 (ex_sound hA n x.1 h fs sz tk eqs x.2 D S hq H)
        | none =>
          have ee : ex ⟨prog, w.params⟩ G (n + 1) (.inn c κ t) fs sz tk eqs pl = ⟨.inn c κ t, fs, sz, tk, eqs, pl⟩ := by
            rw [ex]; simp only [e, e2]
          rw [ee] at hq H
          exact H h D S
end
end
end Mine
end
noncomputable section
namespace Mine
/-- room for k levels of calls -/
structure Fit (k : Nat) (A : Around) : Prop where
  handled : A.handled = none
  depth : A.depth + 20 * k ≤ 980
  units : A.units + 200 * k ≤ 9000
theorem Fit.le {k j : Nat} {A : Around} (h : Fit k A) (hj : j ≤ k) : Fit j A := ⟨h.1, by have := h.2; omega, by have := h.3; omega⟩
noncomputable def heavy : Code → Bool
  | .builtin id _ => id == "claim.caller"
  | _ => false
theorem weight_le {c : Code} (h : heavy c = false) : c.weight ≤ 5 := by
  have hc : c.isCaller = false := by
    cases c with
    | builtin id args =>
      unfold Code.isCaller
      split
      · rename_i a b e
        cases e
        simp [heavy] at h
      · rfl
    | _ => rfl
  have hf : c.frames ≤ 3 := by
    unfold Code.frames
    (repeat' split) <;> decide
  unfold Code.weight
  rw [hc]
  simp only [Bool.false_eq_true, if_false]
  split <;> split <;> omega
theorem units_le (c : Code) : c.cUnits ≤ 10 := by
  have hf : c.frames ≤ 3 := by
    unfold Code.frames
    (repeat' split) <;> decide
  unfold Code.cUnits
  split <;> omega
section
variable {α : Type}
/-- how deep the machine stands, none of it the caller's own code -/
noncomputable def kl : Kn α → Option Nat
  | .bot _ => some 0
  | .ret c _ κ => match heavy c with
    | true => none
    | false => match kl κ with
      | some n => some (n + 1)
      | none => none
noncomputable def cl (cur : Cur α) : Option Nat := match cur with
  | .top _ => some 0
  | .inn c κ _ => match heavy c with
    | true => none
    | false => match kl κ with
      | some n => some (n + 1)
      | none => none
noncomputable def small (o : Option Nat) : Bool := match o with
  | some n => Nat.ble n 4
  | none => false
noncomputable def arC (A : Around) (cur : Cur α) : Around := match cur with
  | .top _ => A
  | .inn c κ _ => (aro A κ).under c
theorem kl_fit {A : Around} (hA : A.handled = none) : ∀ {κ : Kn α} {n : Nat}, kl κ = some n → (aro A κ).handled = none ∧ (aro A κ).depth ≤ A.depth + 5 * n ∧ (aro A κ).units ≤ A.units + 10 * n
  | .bot _, n, e => by cases e; exact ⟨hA, Nat.le_refl _, Nat.le_refl _⟩
  | .ret c k κ, n, e => by
    simp only [kl] at e
    split at e
    · cases e
    · rename_i hh
      split at e
      · rename_i n' e'
        cases e
        have z := kl_fit hA e'
        have w1 := weight_le hh
        have w2 := units_le c
        refine ⟨z.1, ?_, ?_⟩
        · show (aro A κ).depth + c.weight ≤ _
          omega
        · show (aro A κ).units + c.cUnits ≤ _
          omega
      · cases e
theorem arC_fit {A : Around} {k : Nat} {cur : Cur α} (hA : Fit (k + 1) A) (h : small (cl cur) = true) : Fit k (arC A cur) := by
  cases cur with
  | top t => exact hA.le (Nat.le_succ _)
  | inn c κ t =>
    unfold cl at h
    dsimp only at h
    cases hh : heavy c with
    | true => rw [hh] at h; cases h
    | false =>
      rw [hh] at h
      dsimp only at h
      cases e : kl κ with
      | none => rw [e] at h; cases h
      | some n =>
        rw [e] at h
        have hn : n + 1 ≤ 4 := Nat.le_of_ble_eq_true h
        have z := kl_fit hA.1 e
        have w1 := weight_le hh
        have w2 := units_le c
        have h2 := hA.2
        have h3 := hA.3
        refine ⟨z.1, ?_, ?_⟩
        · show (aro A κ).depth + c.weight + 20 * k ≤ 980
          omega
        · show (aro A κ).units + c.cUnits + 200 * k ≤ 9000
          omega
noncomputable def nxt (cur : Cur α) (r : Result) : Cur α := match cur with
  | .top t => match t with
    | .call _ _ _ _ k => .top (k r)
    | t => .top t
  | .inn c κ t => match t with
    | .call _ _ _ _ k => .inn c κ (k r)
    | t => .inn c κ t
noncomputable def cal (cur : Cur α) : Option Code := match cur with
  | .top t => match t with
    | .call c hd _ _ _ => match hd with
      | none => some c
      | some _ => none
    | _ => none
  | .inn _ _ t => match t with
    | .call c hd _ _ _ => match hd with
      | none => some c
      | some _ => none
    | _ => none
variable {prog : Program} {w : World} {A : Around} {Q : α → Shared → Prop} {E : Value → Shared → Prop} {G : Nat → Option Obj}
/-- a code as it is called -/
noncomputable def Ok (prog : Program) (w : World) (A : Around) (c : Code) (R : Result → Shared → Prop) (s : Shared) : Prop := ∀ (Γ : Ctx) (p : Pos), Γ.In A → wpCode (model prog w) (Γ.enter c none p) R p s
theorem Ok.mono {A : Around} {c : Code} {R R' : Result → Shared → Prop} {s : Shared} (h : Ok prog w A c R s) (hR : ∀ r s, R r s → R' r s) : Ok prog w A c R' s := fun Γ p hΓ => wpCode_mono hR (h Γ p hΓ)
theorem Ok.of_code {A : Around} {c : Code} {R : Result → Shared → Prop} {s : Shared} (h : codeAny (model prog w) A c R s) : Ok prog w A c R s := fun Γ p hΓ => h _ p rfl (hΓ.enter c none p (by intro z; cases z))
theorem Ok.of_run {A : Around} {c : Code} {R : Result → Shared → Prop} {s : Shared} (h : wpAny (model prog w) A (runValue c) (fun v s' => R (.ok (.ret v)) s') (fun e s' => R (.error e) s') s) : Ok prog w A c R s := fun Γ p hΓ => by
  have z := h Γ p hΓ
  rw [Sem.wp_runValue] at z
  refine wpCode_mono (fun r s' hr => ?_) z
  cases r with
  | ok f => cases f <;> first | exact hr | exact hr.elim
  | error e => exact hr
theorem Ok.of_call {A : Around} {f : Value} {pos : List Value} {R : Result → Shared → Prop} {s : Shared} (h : wpAny (model prog w) A (call f pos) (fun v s' => R (.ok (.ret v)) s') (fun e s' => R (.error e) s') s) : Ok prog w A (.call f ⟨pos, []⟩) R s := Ok.of_run h
theorem at_call {cur : Cur α} {c : Code} {s : Shared} (e : cal cur = some c) (H : Ok prog w (arC A cur) c (fun r s' => Means prog w A Q E (nxt cur r) s') s) : Means prog w A Q E cur s := by
  cases cur with
  | top t =>
    unfold cal at e
    dsimp only at e
    split at e
    · split at e
      · cases e
        intro Γ p hΓ
        exact wpCode_mono (fun r s' hr => hr Γ p hΓ) (H Γ p hΓ)
      · cases e
    · cases e
  | inn c₀ κ t =>
    unfold cal at e
    dsimp only at e
    split at e
    · split at e
      · cases e
        intro Γ p hc hΓ
        exact wpCode_mono (fun r s' hr => hr Γ p hc hΓ) (H Γ p (hc ▸ hΓ.in))
      · cases e
    · cases e
theorem at_top {cur : Cur α} {t : Sem α} {s : Shared} (e : cur = .top t) (H : wpAny (model prog w) A t Q E s) : Means prog w A Q E cur s := by subst e; exact H
theorem at_pure {cur : Cur α} {a : α} {s : Shared} (e : cur = .top (.pure a)) (H : Q a s) : Means prog w A Q E cur s := at_top e (wpAny_pure H)
theorem at_raise {cur : Cur α} {v : Value} {s : Shared} (e : cur = .top (.raise v)) (H : E v s) : Means prog w A Q E cur s := at_top e (wpAny_throw H)
end
/-- what a code's tree is to end in -/
noncomputable def QF (prog : Program) (w : World) (A : Around) (R : Result → Shared → Prop) : Fin → Shared → Prop := fun fin s' => match fin with
  | .done f => R (.ok f) s'
  | .again c' => c'.quiet = true ∧ codeAny (model prog w) A c' R s'
theorem code_in {prog : Program} {w : World} {A : Around} {c : Code} {R : Result → Shared → Prop} {s : Shared} (H : Means prog w (A.under c) (QF prog w A R) (fun e s' => R (.error e) s') (.top (den c)) s) : codeAny (model prog w) A c R s := by
  refine codeAny_of_tree ?_
  show wpAny _ _ (denote table c) _ _ _
  rw [den_eq]
  exact wpAny_mono H (fun fin s' h => by cases fin <;> exact h) fun _ _ h => h
theorem under_fit {A : Around} {c : Code} {k : Nat} (hA : Fit (k + 1) A) (h : heavy c = false) : Fit k (A.under c) := by
  have w1 := weight_le h
  have w2 := units_le c
  have h2 := hA.2
  have h3 := hA.3
  exact ⟨hA.1, by show A.depth + c.weight + 20 * k ≤ 980; omega, by show A.units + c.cUnits + 200 * k ≤ 9000; omega⟩
/-- the door of a def -/
noncomputable def door (c' : Code) : Sem Fin := PySem.W.R.bindR (PySem.W.ZFast.enterX 0) fun _ => .pure (.again c')
theorem door_eq (c' : Code) : door c' = (do enterFrame; again c') := by
  show PySem.W.R.bindR _ _ = Sem.bind _ _
  rw [← PySem.W.R.bindR_eq, ← PySem.W.ZFast.enterX_eq]
  rfl
theorem at_door {prog : Program} {w : World} {A A' : Around} {R : Result → Shared → Prop} {E : Value → Shared → Prop} {cur : Cur Fin} {c' : Code} {s : Shared} {k : Nat} (e : cur = .top (door c')) (hA : Fit k A') (hl : s.heap.NoLimit) (hq : c'.quiet = true)
    (H : codeAny (model prog w) A c' R s) : Means prog w A' (QF prog w A R) E cur s := by
  refine at_top e ?_
  rw [door_eq]
  exact wpAny_bind (wpAny_enterFrame hl (by have := hA.2; show A'.depth < 1000; omega) (wpAny_pure ⟨hq, H⟩))
end Mine
end
noncomputable section
namespace Mine
/-! ## Contracts -/
noncomputable def sel : List Nat → Facts → Facts
  | [], _ => []
  | i :: is, fs => match fs[i]? with
    | some p => p :: sel is fs
    | none => sel is fs
noncomputable def put : List Nat → Facts → Facts → Facts
  | [], fs, _ => fs
  | _ :: _, fs, [] => fs
  | i :: is, fs, p :: l => put is (fs.set i p) l
noncomputable def mer (is : List Nat) (fs fs2 : Facts) : Facts := put is fs fs2 ++ fs2.drop is.length
theorem sel_mem {fs : Facts} {p : Addr × Obj} : ∀ {is : List Nat}, p ∈ sel is fs → ∃ i ∈ is, fs[i]? = some p
  | [], h => nomatch h
  | i :: is, h => by
    simp only [sel] at h
    split at h
    · rename_i q e
      rcases List.mem_cons.mp h with rfl | h
      · exact ⟨i, .head _, e⟩
      · obtain ⟨j, hj, e'⟩ := sel_mem h
        exact ⟨j, .tail _ hj, e'⟩
    · obtain ⟨j, hj, e'⟩ := sel_mem h
      exact ⟨j, .tail _ hj, e'⟩
theorem nd_inj {fs : Facts} (hn : (fs.map (·.1)).Nodup) {i j : Nat} {p q : Addr × Obj} (hi : fs[i]? = some p) (hj : fs[j]? = some q) (e : p.1 = q.1) : i = j := by
  obtain ⟨li, ei⟩ := List.getElem?_eq_some_iff.mp hi
  obtain ⟨lj, ej⟩ := List.getElem?_eq_some_iff.mp hj
  have h1 : (fs.map (·.1))[i]'(by simpa using li) = (fs.map (·.1))[j]'(by simpa using lj) := by
    rw [List.getElem_map, List.getElem_map, ei, ej, e]
  exact (List.getElem_inj hn).mp h1
theorem sel_nodup {fs : Facts} (hn : (fs.map (·.1)).Nodup) : ∀ {is : List Nat}, is.Nodup → ((sel is fs).map (·.1)).Nodup
  | [], _ => List.nodup_nil
  | i :: is, h => by
    rw [List.nodup_cons] at h
    simp only [sel]
    split
    · rename_i q e
      rw [List.map_cons, List.nodup_cons]
      refine ⟨fun hm => ?_, sel_nodup hn h.2⟩
      obtain ⟨r, hr, hrq⟩ := List.mem_map.mp hm
      obtain ⟨j, hj, e'⟩ := sel_mem hr
      exact h.1 (nd_inj hn e e' hrq.symm ▸ hj)
    · exact sel_nodup hn h.2
section
variable {G : Nat → Option Obj} {h h' h₀ : Heap} {fs fs₀ fs2 : Facts} {sz sz' : Nat} {is : List Nat}
theorem Rep.sel (D : Rep G h fs sz) (hn : is.Nodup) : Rep G h (sel is fs) sz :=
  ⟨D.size, fun p hp => let ⟨_, _, e⟩ := sel_mem hp; D.at e, sel_nodup D.nd hn, D.grd, fun p hp => let ⟨_, _, e⟩ := sel_mem hp; D.low p (List.mem_of_getElem? e)⟩
theorem Since.sel (S : Since h₀ fs₀ h fs) : Since h₀ fs₀ h (sel is fs) := ⟨S.le, S.keep, fun x hx => let ⟨_, _, e⟩ := sel_mem hx; S.own x (List.mem_of_getElem? e)⟩
theorem put_keys : ∀ (is : List Nat) (fs l : Facts), (∀ (n i : Nat) (p : Addr × Obj), is[n]? = some i → l[n]? = some p → ∃ q, fs[i]? = some q ∧ q.1 = p.1) → (put is fs l).map (·.1) = fs.map (·.1)
  | [], _, _, _ => rfl
  | _ :: _, fs, [], _ => by rw [put]
  | i :: is, fs, p :: l, H => by
    rw [put]
    obtain ⟨q, hq, e⟩ := H 0 i p rfl rfl
    have em : (fs.set i p).map (·.1) = fs.map (·.1) := by
      have := map_set_fst (o := p.2) hq
      rw [e] at this
      exact this
    rw [put_keys is (fs.set i p) l fun n j r hn hl => ?_, em]
    obtain ⟨q', hq', e'⟩ := H (n + 1) j r (by simpa using hn) (by simpa using hl)
    rw [List.getElem?_set]
    by_cases hij : i = j
    · subst hij
      obtain ⟨hl', _⟩ := List.getElem?_eq_some_iff.mp hq
      rw [if_pos rfl, if_pos hl']
      refine ⟨p, rfl, ?_⟩
      rw [hq] at hq'
      cases hq'
      exact e.symm.trans e'
    · rw [if_neg hij]; exact ⟨q', hq', e'⟩
theorem put_get : ∀ (is : List Nat) (fs l : Facts) (j : Nat) (p : Addr × Obj), (put is fs l)[j]? = some p → (p ∈ l.take is.length) ∨ (fs[j]? = some p ∧ ∀ n, n < l.length → is[n]? ≠ some j)
  | [], fs, l, j, p, h => .inr ⟨by rw [put] at h; exact h, fun n _ => by simp⟩
  | _ :: _, fs, [], j, p, h => .inr ⟨by rw [put] at h; exact h, fun n hn => absurd hn (Nat.not_lt_zero n)⟩
  | i :: is, fs, q :: l, j, p, h => by
    rw [put] at h
    rcases put_get is (fs.set i q) l j p h with h | ⟨h, h2⟩
    · left; rw [List.length_cons, List.take_succ_cons]; exact .tail _ h
    · rw [List.getElem?_set] at h
      by_cases hij : i = j
      · rw [if_pos hij] at h
        split at h
        · cases h; left; rw [List.length_cons, List.take_succ_cons]; exact .head _
        · cases h
      · rw [if_neg hij] at h
        refine .inr ⟨h, fun n hn => ?_⟩
        cases n with
        | zero => intro z; exact hij (Option.some.inj z)
        | succ n =>
          have := h2 n (by simpa using hn)
          simpa using this
/-- the facts that the callee was handed are the caller's, at these places -/
structure Sub (is : List Nat) (fs fs1 : Facts) : Prop where
  nd : is.Nodup
  eq : sel is fs = fs1
  len : fs1.length = is.length
theorem sel_len_get : ∀ {is : List Nat} {fs : Facts}, (sel is fs).length = is.length → ∀ (n i : Nat), is[n]? = some i → ∃ p, fs[i]? = some p ∧ (sel is fs)[n]? = some p
  | [], _, _, n, i, h => by simp at h
  | a :: is, fs, hl, n, i, h => by
    have hle : ∀ js : List Nat, (sel js fs).length ≤ js.length := by
      intro js
      induction js with
      | nil => exact Nat.le_refl _
      | cons b js ih =>
        simp only [Mine.sel]
        split
        · rw [List.length_cons, List.length_cons]; omega
        · rw [List.length_cons]; omega
    simp only [Mine.sel] at hl ⊢
    split at hl
    · rename_i q e
      cases n with
      | zero =>
        have : a = i := by simpa using h
        subst this
        exact ⟨q, e, rfl⟩
      | succ n =>
        obtain ⟨p, h1, h2⟩ := sel_len_get (is := is) (fs := fs) (by simpa using hl) n i (by simpa using h)
        exact ⟨p, h1, by simpa using h2⟩
    · have := hle is
      rw [List.length_cons] at hl
      omega
theorem Rep.mer (D : Rep G h fs sz) (B : Sub is fs fs1) (D2 : Rep G h' fs2 sz') (S2 : Since h fs1 h' fs2) (ha : (fs2.take is.length).map (·.1) = fs1.map (·.1)) : Rep G h' (mer is fs fs2) sz' := by
  obtain ⟨hn, rfl, hl⟩ := B
  have hlen : is.length ≤ fs2.length := by
    have := congrArg List.length ha
    rw [List.length_map, List.length_map, hl, List.length_take] at this
    omega
  have hk : ∀ (n i : Nat) (p : Addr × Obj), is[n]? = some i → fs2[n]? = some p → ∃ q, fs[i]? = some q ∧ q.1 = p.1 := by
    intro n i p hi hp
    obtain ⟨q, h1, h2⟩ := sel_len_get hl n i hi
    refine ⟨q, h1, ?_⟩
    have hn' : n < is.length := (List.getElem?_eq_some_iff.mp hi).1
    have := congrArg (fun l => l[n]?) ha
    simp only [List.getElem?_map, List.getElem?_take, hn', if_true, hp, h2, Option.map_some] at this
    exact (Option.some.inj this).symm
  have keys := put_keys is fs fs2 hk
  have extra : ∀ x ∈ fs2.drop is.length, h.objs.size ≤ x.1 := by
    intro x hx
    rcases S2.own x (List.mem_of_mem_drop hx) with ⟨y, hy, e⟩ | hle
    · exfalso
      have h1 : x.1 ∈ (fs2.take is.length).map (·.1) := by rw [ha, ← e]; exact List.mem_map_of_mem hy
      have h2 : x.1 ∈ (fs2.drop is.length).map (·.1) := List.mem_map_of_mem hx
      have nd := D2.nd
      rw [← List.take_append_drop is.length fs2, List.map_append] at nd
      exact (List.nodup_append.mp nd).2.2 _ h1 _ h2 rfl
    · exact hle
  refine ⟨D2.size, fun p hp => ?_, ?_, D2.grd, fun p hp => ?_⟩
  · rcases List.mem_append.mp hp with hp | hp
    · obtain ⟨j, hj⟩ := List.mem_iff_getElem?.mp hp
      rcases put_get is fs fs2 j p hj with hm | ⟨hm, hno⟩
      · exact D2.has p (List.mem_of_mem_take hm)
      · refine S2.keep p.1 p.2 (D.at hm) fun x hx e => ?_
        obtain ⟨i, hi, e'⟩ := sel_mem hx
        have : i = j := nd_inj D.nd e' hm e
        subst this
        obtain ⟨n, hn'⟩ := List.mem_iff_getElem?.mp hi
        exact hno n (Nat.lt_of_lt_of_le (List.getElem?_eq_some_iff.mp hn').1 hlen) hn'
    · exact D2.has p (List.mem_of_mem_drop hp)
  · unfold Mine.mer
    rw [List.map_append, keys]
    refine List.nodup_append.mpr ⟨D.nd, ?_, fun a ha' b hb e => ?_⟩
    · have nd := D2.nd
      rw [← List.take_append_drop is.length fs2, List.map_append] at nd
      exact (List.nodup_append.mp nd).2.1
    · obtain ⟨p, hp, rfl⟩ := List.mem_map.mp ha'
      obtain ⟨x, hx, rfl⟩ := List.mem_map.mp hb
      have h1 := Heap.lt_size (D.has p hp)
      have h2 := extra x hx
      exact absurd h1 (by rw [e]; exact Nat.not_lt.mpr h2)
  · rcases List.mem_append.mp hp with hp | hp
    · have : p.1 ∈ (put is fs fs2).map (·.1) := List.mem_map_of_mem hp
      rw [keys] at this
      obtain ⟨q, hq, e⟩ := List.mem_map.mp this
      have := D.low q hq
      rwa [e] at this
    · exact D2.low p (List.mem_of_mem_drop hp)
theorem Since.mer (D : Rep G h fs sz) (S : Since h₀ fs₀ h fs) (B : Sub is fs fs1) (D2 : Rep G h' fs2 sz') (S2 : Since h fs1 h' fs2) (ha : (fs2.take is.length).map (·.1) = fs1.map (·.1)) : Since h₀ fs₀ h' (mer is fs fs2) := by
  obtain ⟨hn, rfl, hl⟩ := B
  refine ⟨Nat.le_trans S.le S2.le, fun b o e hx => ?_, fun x hx => ?_⟩
  · refine S2.keep b o (S.keep b o e hx) fun y hy ey => ?_
    obtain ⟨i, _, e'⟩ := sel_mem hy
    rcases S.own y (List.mem_of_getElem? e') with ⟨z, hz, ez⟩ | hle
    · exact hx z hz (ez.trans ey)
    · exact absurd (Heap.lt_size e) (by rw [← ey]; exact Nat.not_lt.mpr hle)
  · rcases List.mem_append.mp hx with hx | hx
    · have hk : ∀ (n i : Nat) (p : Addr × Obj), is[n]? = some i → fs2[n]? = some p → ∃ q, fs[i]? = some q ∧ q.1 = p.1 := by
        intro n i p hi hp
        obtain ⟨q, h1, h2⟩ := sel_len_get hl n i hi
        refine ⟨q, h1, ?_⟩
        have hn' : n < is.length := (List.getElem?_eq_some_iff.mp hi).1
        have := congrArg (fun l => l[n]?) ha
        simp only [List.getElem?_map, List.getElem?_take, hn', if_true, hp, h2, Option.map_some] at this
        exact (Option.some.inj this).symm
      have : x.1 ∈ (put is fs fs2).map (·.1) := List.mem_map_of_mem hx
      rw [put_keys is fs fs2 hk] at this
      obtain ⟨q, hq, e⟩ := List.mem_map.mp this
      have := S.own q hq
      rwa [e] at this
    · rcases S2.own x (List.mem_of_mem_drop hx) with ⟨y, hy, e⟩ | hle
      · obtain ⟨i, _, e'⟩ := sel_mem hy
        have := S.own y (List.mem_of_getElem? e')
        rwa [e] at this
      · exact .inr (Nat.le_trans S.le hle)
end
section
variable {β : Type}
/-- how a code ends: in one of these results, with these objects, nothing else changed -/
noncomputable def Post (G : Nat → Option Obj) (g : Array GenState) (d : Drawn) (os : OsState) (h : Heap) (fs1 : Facts) (res : β → Result) (fs2 : β → Facts) (X : β → Prop) : Result → Shared → Prop :=
  fun r s' => ∃ x h' sz' tk', r = res x ∧ s' = ⟨h', g, d, tk', os⟩ ∧ Rep G h' (fs2 x) sz' ∧ Since h fs1 h' (fs2 x) ∧ X x
noncomputable def Con (prog : Program) (w : World) (G : Nat → Option Obj) (k : Nat) (c : Code) (fs1 : Facts) (res : β → Result) (fs2 : β → Facts) (X : β → Prop) : Prop :=
  ∀ (A : Around), Fit k A → ∀ (h : Heap) (sz tk : Nat) (g : Array GenState) (d : Drawn) (os : OsState), Rep G h fs1 sz → Ok prog w A c (Post G g d os h fs1 res fs2 X) ⟨h, g, d, tk, os⟩
end
section
variable {α β : Type} {prog : Program} {w : World} {A : Around} {Q : α → Shared → Prop} {E : Value → Shared → Prop} {G : Nat → Option Obj}
theorem use {k : Nat} {cur : Cur α} {c : Code} {fs1 : Facts} {res : β → Result} {fs2 : β → Facts} {X : β → Prop} (C : Con prog w G k c fs1 res fs2 X) (is : List Nat) {h h₀ : Heap} {fs fs₀ : Facts} {sz tk : Nat} {g : Array GenState} {d : Drawn} {os : OsState}
    (hA : Fit (k + 1) A) (D : Rep G h fs sz) (S : Since h₀ fs₀ h fs) (e : cal cur = some c) (hs : small (cl cur) = true) (B : Sub is fs fs1) (ha : ∀ x, ((fs2 x).take is.length).map (·.1) = fs1.map (·.1))
    (H : ∀ x h' sz' tk', X x → Rep G h' (mer is fs (fs2 x)) sz' → Since h₀ fs₀ h' (mer is fs (fs2 x)) → Means prog w A Q E (nxt cur (res x)) ⟨h', g, d, tk', os⟩) : Means prog w A Q E cur ⟨h, g, d, tk, os⟩ := by
  refine at_call e (Ok.mono (C _ (arC_fit hA hs) h sz tk g d os (B.eq ▸ D.sel B.nd)) fun r s' hp => ?_)
  obtain ⟨x, h', sz', tk', rfl, rfl, D', S', hX⟩ := hp
  exact H x h' sz' tk' hX (D.mer B D' S' (ha x)) (S.mer D B D' S' (ha x))
end
end Mine
end
noncomputable section
namespace Mine
noncomputable def S (l : List Nat) : Str := ⟨⟨l⟩⟩
noncomputable def en (P : Params) (x : Str) (t : Tok) (v : Value) : DictEntry := ⟨PyData.keyHash P x, .str x t, v⟩
noncomputable abbrev pw : Program := PySem.Challenge.pw_nb0112_02
noncomputable def nop : Stmt := .Pass ⟨0, 0, 0, 0⟩
noncomputable def stm (i : Nat) : Stmt := pw.main.body.getD i nop
noncomputable def inCls (i j : Nat) : Stmt := match stm i with
  | .ClassDef _ _ _ b .. => b.getD j nop
  | s => s
noncomputable def parOf : Stmt → Arguments
  | .FunctionDef _ a .. => a
  | _ => ⟨[], [], none, [], [], none, []⟩
noncomputable def bodOf : Stmt → List Stmt
  | .FunctionDef _ _ b .. => b
  | _ => []
noncomputable def scoOf : Stmt → Scope
  | .FunctionDef _ _ _ _ _ _ sc .. => sc
  | _ => default
noncomputable def namOf : Stmt → Str
  | .FunctionDef n .. => n
  | _ => Str.empty
noncomputable def fn (st : Stmt) (q : Str) (pm cd : Value) : Obj :=
  ⟨.type "function", none, .func { name := namOf st, qualname := q, params := parOf st, body := .stmts (bodOf st), scope := scoOf st, globals := 3, closure := [], defaults := .none, kwdefaults := .none, pyModule := pm, code := cd, builtins := 0 }, #[]⟩
noncomputable def pick (a b : Nat) (o lo hi : Option Obj) : Option Obj := match Nat.beq a b with
  | true => o
  | false => match Nat.blt a b with
    | true => lo
    | false => hi
noncomputable def o0 (P : Params) : Obj := ⟨(.type "dict"), none, (.dict [(en P (S [95,95,110,97,109,101,95,95]) 1 (.str (S [98,117,105,108,116,105,110,115]) 160)),(en P (S [95,95,100,111,99,95,95]) 2 (.builtin "builtins.__doc__:str#opaque")),(en P (S [95,95,112,97,99,107,97,103,101,95,95]) 3 (.builtin "builtins.__package__:str#opaque")),(en P (S [95,95,108,111,97,100,101,114,95,95]) 4 (.builtin "builtins.__loader__:shared#opaque")),(en P (S [95,95,115,112,101,99,95,95]) 5 (.builtin "builtins.__spec__#opaque")),(en P (S [95,95,98,117,105,108,100,95,99,108,97,115,115,95,95]) 6 (.builtin "__build_class__")),(en P (S [95,95,105,109,112,111,114,116,95,95]) 7 (.builtin "__import__")),(en P (S [97,98,115]) 8 (.builtin "abs")),(en P (S [97,108,108]) 9 (.builtin "all")),(en P (S [97,110,121]) 10 (.builtin "any")),(en P (S [97,115,99,105,105]) 11 (.builtin "ascii")),(en P (S [98,105,110]) 12 (.builtin "bin")),(en P (S [98,114,101,97,107,112,111,105,110,116]) 13 (.builtin "breakpoint")),(en P (S [99,97,108,108,97,98,108,101]) 14 (.builtin "callable")),(en P (S [99,104,114]) 15 (.builtin "chr")),(en P (S [99,111,109,112,105,108,101]) 16 (.builtin "compile")),(en P (S [100,101,108,97,116,116,114]) 17 (.builtin "delattr")),(en P (S [100,105,114]) 18 (.builtin "dir")),(en P (S [100,105,118,109,111,100]) 19 (.builtin "divmod")),(en P (S [101,118,97,108]) 20 (.builtin "eval")),(en P (S [101,120,101,99]) 21 (.builtin "exec")),(en P (S [102,111,114,109,97,116]) 22 (.builtin "format")),(en P (S [103,101,116,97,116,116,114]) 23 (.builtin "getattr")),(en P (S [103,108,111,98,97,108,115]) 24 (.builtin "globals")),(en P (S [104,97,115,97,116,116,114]) 25 (.builtin "hasattr")),(en P (S [104,97,115,104]) 26 (.builtin "hash")),(en P (S [104,101,120]) 27 (.builtin "hex")),(en P (S [105,100]) 28 (.builtin "id")),(en P (S [105,110,112,117,116]) 29 (.builtin "input")),(en P (S [105,115,105,110,115,116,97,110,99,101]) 30 (.builtin "isinstance")),(en P (S [105,115,115,117,98,99,108,97,115,115]) 31 (.builtin "issubclass")),(en P (S [105,116,101,114]) 32 (.builtin "iter")),(en P (S [97,105,116,101,114]) 33 (.builtin "aiter")),(en P (S [108,101,110]) 34 (.builtin "len")),(en P (S [108,111,99,97,108,115]) 35 (.builtin "locals")),(en P (S [109,97,120]) 36 (.builtin "max")),(en P (S [109,105,110]) 37 (.builtin "min")),(en P (S [110,101,120,116]) 38 (.builtin "next")),(en P (S [97,110,101,120,116]) 39 (.builtin "anext")),(en P (S [111,99,116]) 40 (.builtin "oct")),(en P (S [111,114,100]) 41 (.builtin "ord")),(en P (S [112,111,119]) 42 (.builtin "pow")),(en P (S [112,114,105,110,116]) 43 (.builtin "print")),(en P (S [114,101,112,114]) 44 (.builtin "repr")),(en P (S [114,111,117,110,100]) 45 (.builtin "round")),(en P (S [115,101,116,97,116,116,114]) 46 (.builtin "setattr")),(en P (S [115,111,114,116,101,100]) 47 (.builtin "sorted")),(en P (S [115,117,109]) 48 (.builtin "sum")),(en P (S [118,97,114,115]) 49 (.builtin "vars")),(en P (S [78,111,110,101]) 50 .none),(en P (S [69,108,108,105,112,115,105,115]) 51 .ellipsis),(en P (S [78,111,116,73,109,112,108,101,109,101,110,116,101,100]) 52 .notImplemented),(en P (S [70,97,108,115,101]) 53 (.bool false)),(en P (S [84,114,117,101]) 54 (.bool true)),(en P (S [98,111,111,108]) 55 (.type "bool")),(en P (S [109,101,109,111,114,121,118,105,101,119]) 56 (.type "memoryview")),(en P (S [98,121,116,101,97,114,114,97,121]) 57 (.type "bytearray")),(en P (S [98,121,116,101,115]) 58 (.type "bytes")),(en P (S [99,108,97,115,115,109,101,116,104,111,100]) 59 (.type "classmethod")),(en P (S [99,111,109,112,108,101,120]) 60 (.type "complex")),(en P (S [100,105,99,116]) 61 (.type "dict")),(en P (S [101,110,117,109,101,114,97,116,101]) 62 (.type "enumerate")),(en P (S [102,105,108,116,101,114]) 63 (.type "filter")),(en P (S [102,108,111,97,116]) 64 (.type "float")),(en P (S [102,114,111,122,101,110,115,101,116]) 65 (.type "frozenset")),(en P (S [112,114,111,112,101,114,116,121]) 66 (.type "property")),(en P (S [105,110,116]) 67 (.type "int")),(en P (S [108,105,115,116]) 68 (.type "list")),(en P (S [109,97,112]) 69 (.type "map")),(en P (S [111,98,106,101,99,116]) 70 (.type "object")),(en P (S [114,97,110,103,101]) 71 (.type "range")),(en P (S [114,101,118,101,114,115,101,100]) 72 (.type "reversed")),(en P (S [115,101,116]) 73 (.type "set")),(en P (S [115,108,105,99,101]) 74 (.type "slice")),(en P (S [115,116,97,116,105,99,109,101,116,104,111,100]) 75 (.type "staticmethod")),(en P (S [115,116,114]) 76 (.type "str")),(en P (S [115,117,112,101,114]) 77 (.type "super")),(en P (S [116,117,112,108,101]) 78 (.type "tuple")),(en P (S [116,121,112,101]) 79 (.type "type")),(en P (S [122,105,112]) 80 (.type "zip")),(en P (S [95,95,100,101,98,117,103,95,95]) 81 (.bool true)),(en P (S [66,97,115,101,69,120,99,101,112,116,105,111,110]) 82 (.type "BaseException")),(en P (S [66,97,115,101,69,120,99,101,112,116,105,111,110,71,114,111,117,112]) 83 (.type "BaseExceptionGroup")),(en P (S [69,120,99,101,112,116,105,111,110]) 84 (.type "Exception")),(en P (S [71,101,110,101,114,97,116,111,114,69,120,105,116]) 85 (.type "GeneratorExit")),(en P (S [75,101,121,98,111,97,114,100,73,110,116,101,114,114,117,112,116]) 86 (.type "KeyboardInterrupt")),(en P (S [83,121,115,116,101,109,69,120,105,116]) 87 (.type "SystemExit")),(en P (S [65,114,105,116,104,109,101,116,105,99,69,114,114,111,114]) 88 (.type "ArithmeticError")),(en P (S [65,115,115,101,114,116,105,111,110,69,114,114,111,114]) 89 (.type "AssertionError")),(en P (S [65,116,116,114,105,98,117,116,101,69,114,114,111,114]) 90 (.type "AttributeError")),(en P (S [66,117,102,102,101,114,69,114,114,111,114]) 91 (.type "BufferError")),(en P (S [69,79,70,69,114,114,111,114]) 92 (.type "EOFError")),(en P (S [73,109,112,111,114,116,69,114,114,111,114]) 93 (.type "ImportError")),(en P (S [76,111,111,107,117,112,69,114,114,111,114]) 94 (.type "LookupError")),(en P (S [77,101,109,111,114,121,69,114,114,111,114]) 95 (.type "MemoryError")),(en P (S [78,97,109,101,69,114,114,111,114]) 96 (.type "NameError")),(en P (S [79,83,69,114,114,111,114]) 97 (.type "OSError")),(en P (S [82,101,102,101,114,101,110,99,101,69,114,114,111,114]) 98 (.type "ReferenceError")),(en P (S [82,117,110,116,105,109,101,69,114,114,111,114]) 99 (.type "RuntimeError")),(en P (S [83,116,111,112,65,115,121,110,99,73,116,101,114,97,116,105,111,110]) 100 (.type "StopAsyncIteration")),(en P (S [83,116,111,112,73,116,101,114,97,116,105,111,110]) 101 (.type "StopIteration")),(en P (S [83,121,110,116,97,120,69,114,114,111,114]) 102 (.type "SyntaxError")),(en P (S [83,121,115,116,101,109,69,114,114,111,114]) 103 (.type "SystemError")),(en P (S [84,121,112,101,69,114,114,111,114]) 104 (.type "TypeError")),(en P (S [86,97,108,117,101,69,114,114,111,114]) 105 (.type "ValueError")),(en P (S [87,97,114,110,105,110,103]) 106 (.type "Warning")),(en P (S [70,108,111,97,116,105,110,103,80,111,105,110,116,69,114,114,111,114]) 107 (.type "FloatingPointError")),(en P (S [79,118,101,114,102,108,111,119,69,114,114,111,114]) 108 (.type "OverflowError")),(en P (S [90,101,114,111,68,105,118,105,115,105,111,110,69,114,114,111,114]) 109 (.type "ZeroDivisionError")),(en P (S [66,121,116,101,115,87,97,114,110,105,110,103]) 110 (.type "BytesWarning")),(en P (S [68,101,112,114,101,99,97,116,105,111,110,87,97,114,110,105,110,103]) 111 (.type "DeprecationWarning")),(en P (S [69,110,99,111,100,105,110,103,87,97,114,110,105,110,103]) 112 (.type "EncodingWarning")),(en P (S [70,117,116,117,114,101,87,97,114,110,105,110,103]) 113 (.type "FutureWarning")),(en P (S [73,109,112,111,114,116,87,97,114,110,105,110,103]) 114 (.type "ImportWarning")),(en P (S [80,101,110,100,105,110,103,68,101,112,114,101,99,97,116,105,111,110,87,97,114,110,105,110,103]) 115 (.type "PendingDeprecationWarning")),(en P (S [82,101,115,111,117,114,99,101,87,97,114,110,105,110,103]) 116 (.type "ResourceWarning")),(en P (S [82,117,110,116,105,109,101,87,97,114,110,105,110,103]) 117 (.type "RuntimeWarning")),(en P (S [83,121,110,116,97,120,87,97,114,110,105,110,103]) 118 (.type "SyntaxWarning")),(en P (S [85,110,105,99,111,100,101,87,97,114,110,105,110,103]) 119 (.type "UnicodeWarning")),(en P (S [85,115,101,114,87,97,114,110,105,110,103]) 120 (.type "UserWarning")),(en P (S [66,108,111,99,107,105,110,103,73,79,69,114,114,111,114]) 121 (.type "BlockingIOError")),(en P (S [67,104,105,108,100,80,114,111,99,101,115,115,69,114,114,111,114]) 122 (.type "ChildProcessError")),(en P (S [67,111,110,110,101,99,116,105,111,110,69,114,114,111,114]) 123 (.type "ConnectionError")),(en P (S [70,105,108,101,69,120,105,115,116,115,69,114,114,111,114]) 124 (.type "FileExistsError")),(en P (S [70,105,108,101,78,111,116,70,111,117,110,100,69,114,114,111,114]) 125 (.type "FileNotFoundError")),(en P (S [73,110,116,101,114,114,117,112,116,101,100,69,114,114,111,114]) 126 (.type "InterruptedError")),(en P (S [73,115,65,68,105,114,101,99,116,111,114,121,69,114,114,111,114]) 127 (.type "IsADirectoryError")),(en P (S [78,111,116,65,68,105,114,101,99,116,111,114,121,69,114,114,111,114]) 128 (.type "NotADirectoryError")),(en P (S [80,101,114,109,105,115,115,105,111,110,69,114,114,111,114]) 129 (.type "PermissionError")),(en P (S [80,114,111,99,101,115,115,76,111,111,107,117,112,69,114,114,111,114]) 130 (.type "ProcessLookupError")),(en P (S [84,105,109,101,111,117,116,69,114,114,111,114]) 131 (.type "TimeoutError")),(en P (S [73,110,100,101,110,116,97,116,105,111,110,69,114,114,111,114]) 132 (.type "IndentationError")),(en P (S [95,73,110,99,111,109,112,108,101,116,101,73,110,112,117,116,69,114,114,111,114]) 133 (.type "_IncompleteInputError")),(en P (S [73,110,100,101,120,69,114,114,111,114]) 134 (.type "IndexError")),(en P (S [75,101,121,69,114,114,111,114]) 135 (.type "KeyError")),(en P (S [77,111,100,117,108,101,78,111,116,70,111,117,110,100,69,114,114,111,114]) 136 (.type "ModuleNotFoundError")),(en P (S [78,111,116,73,109,112,108,101,109,101,110,116,101,100,69,114,114,111,114]) 137 (.type "NotImplementedError")),(en P (S [80,121,116,104,111,110,70,105,110,97,108,105,122,97,116,105,111,110,69,114,114,111,114]) 138 (.type "PythonFinalizationError")),(en P (S [82,101,99,117,114,115,105,111,110,69,114,114,111,114]) 139 (.type "RecursionError")),(en P (S [85,110,98,111,117,110,100,76,111,99,97,108,69,114,114,111,114]) 140 (.type "UnboundLocalError")),(en P (S [85,110,105,99,111,100,101,69,114,114,111,114]) 141 (.type "UnicodeError")),(en P (S [66,114,111,107,101,110,80,105,112,101,69,114,114,111,114]) 142 (.type "BrokenPipeError")),(en P (S [67,111,110,110,101,99,116,105,111,110,65,98,111,114,116,101,100,69,114,114,111,114]) 143 (.type "ConnectionAbortedError")),(en P (S [67,111,110,110,101,99,116,105,111,110,82,101,102,117,115,101,100,69,114,114,111,114]) 144 (.type "ConnectionRefusedError")),(en P (S [67,111,110,110,101,99,116,105,111,110,82,101,115,101,116,69,114,114,111,114]) 145 (.type "ConnectionResetError")),(en P (S [84,97,98,69,114,114,111,114]) 146 (.type "TabError")),(en P (S [85,110,105,99,111,100,101,68,101,99,111,100,101,69,114,114,111,114]) 147 (.type "UnicodeDecodeError")),(en P (S [85,110,105,99,111,100,101,69,110,99,111,100,101,69,114,114,111,114]) 148 (.type "UnicodeEncodeError")),(en P (S [85,110,105,99,111,100,101,84,114,97,110,115,108,97,116,101,69,114,114,111,114]) 149 (.type "UnicodeTranslateError")),(en P (S [69,120,99,101,112,116,105,111,110,71,114,111,117,112]) 150 (.type "ExceptionGroup")),(en P (S [69,110,118,105,114,111,110,109,101,110,116,69,114,114,111,114]) 151 (.type "OSError")),(en P (S [73,79,69,114,114,111,114]) 152 (.type "OSError")),(en P (S [111,112,101,110]) 153 (.builtin "open")),(en P (S [113,117,105,116]) 154 (.builtin "builtins.quit#opaque")),(en P (S [101,120,105,116]) 155 (.builtin "builtins.exit#opaque")),(en P (S [99,111,112,121,114,105,103,104,116]) 156 (.builtin "builtins.copyright#opaque")),(en P (S [99,114,101,100,105,116,115]) 157 (.builtin "builtins.credits#opaque")),(en P (S [108,105,99,101,110,115,101]) 158 (.builtin "builtins.license#opaque")),(en P (S [104,101,108,112]) 159 (.builtin "builtins.help#opaque"))].toArray 159), [].toArray⟩
noncomputable def o2 (_ : Params) : Obj := ⟨.none, none, (.dict [].toArray 0), [].toArray⟩
noncomputable def o3 (P : Params) : Obj := ⟨(.type "dict"), none, (.dict [(en P (S [95,95,110,97,109,101,95,95]) 165 (.str (S [108,97,119,95,110,98,48,49,49,50,95,48,50]) 313)),(en P (S [95,95,100,111,99,95,95]) 166 .none),(en P (S [95,95,112,97,99,107,97,103,101,95,95]) 167 .none),(en P (S [95,95,108,111,97,100,101,114,95,95]) 168 (.builtin "__main__.__loader__#opaque")),(en P (S [95,95,115,112,101,99,95,95]) 169 .none),(en P (S [95,95,97,110,110,111,116,97,116,105,111,110,115,95,95]) 170 (.ref 6)),(en P (S [95,95,98,117,105,108,116,105,110,115,95,95]) 171 (.ref 4)),(en P (S [95,95,102,105,108,101,95,95]) 173 (.str (S [47,99,108,97,105,109,47,99,117,116,46,112,121]) 172)),(en P (S [95,95,99,97,99,104,101,100,95,95]) 174 .none),(en P (S [95,119,97,108,108]) 193 (.ref 21)),(en P (S [95,110,101,116,114,99,108,101,120]) 253 (.ref 59)),(en P (S [69,110,116,114,121]) 312 (.ref 101)),(en P (S [95,108,97,119,95,115,112,101,108,108,101,100]) 320 (.ref 110)),(en P (S [95,108,97,119,95,114,101,99,111,114,100,115]) 326 (.ref 115)),(en P (S [95,108,97,119,95,116,101,120,116]) 338 (.ref 122)),(en P (S [95,108,97,119,95,114,101,97,100]) 344 (.ref 127)),(en P (S [108,97,119]) 350 (.ref 132))].toArray 17), [].toArray⟩
noncomputable def o4 (_ : Params) : Obj := ⟨(.type "module"), (some 0), .plain, [].toArray⟩
noncomputable def o34 (_ : Params) : Obj := ⟨(.type "code"), none, (.fields [(.str (S [95,95,105,110,105,116,95,95]) 208),(.str (S [95,110,101,116,114,99,108,101,120,46,95,95,105,110,105,116,95,95]) 209),(.str (S [47,99,108,97,105,109,47,99,117,116,46,112,121]) 210),(.int 7 0),(.int 2 0),(.int 0 0),(.int 0 0),(.int 3 0),(.ref 29),(.bool true),(.int 181 0),(.ref 30),.none,(.ref 31),(.ref 32),(.ref 33),(.int 213 0),(.int 7 0),(.str (S [47,99,108,97,105,109,47,99,117,116,46,112,121]) 214)].toArray), [].toArray⟩
noncomputable def o35 (_ : Params) : Obj := fn (inCls 2 0) (S [95,110,101,116,114,99,108,101,120,46,95,95,105,110,105,116,95,95]) (.str (S [99,112,121,51,49,51,46,110,101,116,114,99]) 194) (.ref 34)
noncomputable def o41 (_ : Params) : Obj := ⟨(.type "code"), none, (.fields [(.str (S [95,114,101,97,100,95,99,104,97,114]) 216),(.str (S [95,110,101,116,114,99,108,101,120,46,95,114,101,97,100,95,99,104,97,114]) 217),(.str (S [47,99,108,97,105,109,47,99,117,116,46,112,121]) 218),(.int 13 0),(.int 1 0),(.int 0 0),(.int 0 0),(.int 3 0),(.ref 36),(.bool true),(.int 181 0),(.ref 37),.none,(.ref 38),(.ref 39),(.ref 40),(.int 221 0),(.int 13 0),(.str (S [47,99,108,97,105,109,47,99,117,116,46,112,121]) 222)].toArray), [].toArray⟩
noncomputable def o42 (_ : Params) : Obj := fn (inCls 2 1) (S [95,110,101,116,114,99,108,101,120,46,95,114,101,97,100,95,99,104,97,114]) (.str (S [99,112,121,51,49,51,46,110,101,116,114,99]) 194) (.ref 41)
noncomputable def o48 (_ : Params) : Obj := ⟨(.type "code"), none, (.fields [(.str (S [103,101,116,95,116,111,107,101,110]) 224),(.str (S [95,110,101,116,114,99,108,101,120,46,103,101,116,95,116,111,107,101,110]) 225),(.str (S [47,99,108,97,105,109,47,99,117,116,46,112,121]) 226),(.int 19 0),(.int 1 0),(.int 0 0),(.int 0 0),(.int 3 0),(.ref 43),(.bool true),(.int 181 0),(.ref 44),.none,(.ref 45),(.ref 46),(.ref 47),(.int 231 0),(.int 19 0),(.str (S [47,99,108,97,105,109,47,99,117,116,46,112,121]) 232)].toArray), [].toArray⟩
noncomputable def o49 (_ : Params) : Obj := fn (inCls 2 2) (S [95,110,101,116,114,99,108,101,120,46,103,101,116,95,116,111,107,101,110]) (.str (S [99,112,121,51,49,51,46,110,101,116,114,99]) 194) (.ref 48)
noncomputable def o58 (P : Params) : Obj := ⟨(.type "dict"), none, (.dict [(en P (S [95,95,109,111,100,117,108,101,95,95]) 203 (.str (S [99,112,121,51,49,51,46,110,101,116,114,99]) 194)),(en P (S [95,95,102,105,114,115,116,108,105,110,101,110,111,95,95]) 207 (.int 5 206)),(en P (S [95,95,105,110,105,116,95,95]) 215 (.ref 35)),(en P (S [95,114,101,97,100,95,99,104,97,114]) 223 (.ref 42)),(en P (S [103,101,116,95,116,111,107,101,110]) 233 (.ref 49)),(en P (S [112,117,115,104,95,116,111,107,101,110]) 241 (.ref 56)),(en P (S [95,95,115,116,97,116,105,99,95,97,116,116,114,105,98,117,116,101,115,95,95]) 246 (.ref 57)),(en P (S [95,95,100,105,99,116,95,95]) 248 (.ref 60)),(en P (S [95,95,119,101,97,107,114,101,102,95,95]) 250 (.ref 61)),(en P (S [95,95,100,111,99,95,95]) 251 .none)].toArray 4), [].toArray⟩
noncomputable def o59 (_ : Params) : Obj := ⟨(.type "type"), none, (.cls { name := (S [95,110,101,116,114,99,108,101,120]), bases := [(.type "object")], mro := [(.ref 59),(.type "object")], ns := 58, qualname := (S [95,110,101,116,114,99,108,101,120]), hasDict := true, slotNames := [], subclasses := [], abstract := false, collection := none, hasDel := false }), [none,none,(some (.str (S [95,110,101,116,114,99,108,101,120]) 196)),(some (.str (S [95,110,101,116,114,99,108,101,120]) 204)),(some (.builtin "object.__new__")),(some (.bool true))].toArray⟩
noncomputable def o76 (_ : Params) : Obj := ⟨(.type "code"), none, (.fields [(.str (S [95,95,105,110,105,116,95,95]) 268),(.str (S [69,110,116,114,121,46,95,95,105,110,105,116,95,95]) 269),(.str (S [47,99,108,97,105,109,47,99,117,116,46,112,121]) 270),(.int 51 0),(.int 1 0),(.int 0 0),(.int 0 0),(.int 3 0),(.ref 71),(.bool true),(.int 181 0),(.ref 72),.none,(.ref 73),(.ref 74),(.ref 75),(.int 272 0),(.int 51 0),(.str (S [47,99,108,97,105,109,47,99,117,116,46,112,121]) 273)].toArray), [].toArray⟩
noncomputable def o77 (_ : Params) : Obj := fn (inCls 4 0) (S [69,110,116,114,121,46,95,95,105,110,105,116,95,95]) (.str (S [99,112,121,51,49,51,46,117,114,108,108,105,98,46,114,111,98,111,116,112,97,114,115,101,114]) 254) (.ref 76)
noncomputable def o83 (_ : Params) : Obj := ⟨(.type "code"), none, (.fields [(.str (S [95,95,115,116,114,95,95]) 275),(.str (S [69,110,116,114,121,46,95,95,115,116,114,95,95]) 276),(.str (S [47,99,108,97,105,109,47,99,117,116,46,112,121]) 277),(.int 57 0),(.int 1 0),(.int 0 0),(.int 0 0),(.int 3 0),(.ref 78),(.bool true),(.int 181 0),(.ref 79),.none,(.ref 80),(.ref 81),(.ref 82),(.int 282 0),(.int 57 0),(.str (S [47,99,108,97,105,109,47,99,117,116,46,112,121]) 283)].toArray), [].toArray⟩
noncomputable def o84 (_ : Params) : Obj := fn (inCls 4 1) (S [69,110,116,114,121,46,95,95,115,116,114,95,95]) (.str (S [99,112,121,51,49,51,46,117,114,108,108,105,98,46,114,111,98,111,116,112,97,114,115,101,114]) 254) (.ref 83)
noncomputable def o100 (P : Params) : Obj := ⟨(.type "dict"), none, (.dict [(en P (S [95,95,109,111,100,117,108,101,95,95]) 263 (.str (S [99,112,121,51,49,51,46,117,114,108,108,105,98,46,114,111,98,111,116,112,97,114,115,101,114]) 254)),(en P (S [95,95,102,105,114,115,116,108,105,110,101,110,111,95,95]) 267 (.int 49 266)),(en P (S [95,95,105,110,105,116,95,95]) 274 (.ref 77)),(en P (S [95,95,115,116,114,95,95]) 284 (.ref 84)),(en P (S [97,112,112,108,105,101,115,95,116,111]) 292 (.ref 91)),(en P (S [97,108,108,111,119,97,110,99,101]) 300 (.ref 98)),(en P (S [95,95,115,116,97,116,105,99,95,97,116,116,114,105,98,117,116,101,115,95,95]) 305 (.ref 99)),(en P (S [95,95,100,105,99,116,95,95]) 307 (.ref 102)),(en P (S [95,95,119,101,97,107,114,101,102,95,95]) 309 (.ref 103)),(en P (S [95,95,100,111,99,95,95]) 310 .none)].toArray 4), [].toArray⟩
noncomputable def o101 (_ : Params) : Obj := ⟨(.type "type"), none, (.cls { name := (S [69,110,116,114,121]), bases := [(.type "object")], mro := [(.ref 101),(.type "object")], ns := 100, qualname := (S [69,110,116,114,121]), hasDict := true, slotNames := [], subclasses := [], abstract := false, collection := none, hasDel := false }), [none,none,(some (.str (S [69,110,116,114,121]) 256)),(some (.str (S [69,110,116,114,121]) 264)),(some (.builtin "object.__new__")),(some (.bool true))].toArray⟩
noncomputable def o109 (_ : Params) : Obj := ⟨(.type "code"), none, (.fields [(.str (S [95,108,97,119,95,115,112,101,108,108,101,100]) 315),(.str (S [95,108,97,119,95,115,112,101,108,108,101,100]) 316),(.str (S [47,99,108,97,105,109,47,99,117,116,46,112,121]) 317),(.int 80 0),(.int 2 0),(.int 0 0),(.int 0 0),(.int 3 0),(.ref 106),(.bool true),(.int 181 0),(.ref 107),.none,.none,.none,(.ref 108),(.int 318 0),(.int 80 0),(.str (S [47,99,108,97,105,109,47,99,117,116,46,112,121]) 319)].toArray), [].toArray⟩
noncomputable def o110 (_ : Params) : Obj := fn (stm 6) (S [95,108,97,119,95,115,112,101,108,108,101,100]) (.str (S [108,97,119,95,110,98,48,49,49,50,95,48,50]) 313) (.ref 109)
noncomputable def o114 (_ : Params) : Obj := ⟨(.type "code"), none, (.fields [(.str (S [95,108,97,119,95,114,101,99,111,114,100,115]) 321),(.str (S [95,108,97,119,95,114,101,99,111,114,100,115]) 322),(.str (S [47,99,108,97,105,109,47,99,117,116,46,112,121]) 323),(.int 86 0),(.int 1 0),(.int 0 0),(.int 0 0),(.int 3 0),(.ref 111),(.bool true),(.int 181 0),(.ref 112),.none,.none,.none,(.ref 113),(.int 324 0),(.int 86 0),(.str (S [47,99,108,97,105,109,47,99,117,116,46,112,121]) 325)].toArray), [].toArray⟩
noncomputable def o115 (_ : Params) : Obj := fn (stm 7) (S [95,108,97,119,95,114,101,99,111,114,100,115]) (.str (S [108,97,119,95,110,98,48,49,49,50,95,48,50]) 313) (.ref 114)
noncomputable def o117 (_ : Params) : Obj := ⟨.none, none, (.fields [].toArray), [].toArray⟩
noncomputable def o121 (_ : Params) : Obj := ⟨(.type "code"), none, (.fields [(.str (S [95,108,97,119,95,116,101,120,116]) 327),(.str (S [95,108,97,119,95,116,101,120,116]) 328),(.str (S [47,99,108,97,105,109,47,99,117,116,46,112,121]) 329),(.int 98 0),(.int 3 0),(.int 0 0),(.int 0 0),(.int 3 0),(.ref 116),(.bool true),(.int 181 0),(.ref 117),.none,(.ref 118),(.ref 119),(.ref 120),(.int 336 0),(.int 98 0),(.str (S [47,99,108,97,105,109,47,99,117,116,46,112,121]) 337)].toArray), [].toArray⟩
noncomputable def o122 (_ : Params) : Obj := fn (stm 8) (S [95,108,97,119,95,116,101,120,116]) (.str (S [108,97,119,95,110,98,48,49,49,50,95,48,50]) 313) (.ref 121)
noncomputable def o124 (_ : Params) : Obj := ⟨.none, none, (.fields [].toArray), [].toArray⟩
noncomputable def o126 (_ : Params) : Obj := ⟨(.type "code"), none, (.fields [(.str (S [95,108,97,119,95,114,101,97,100]) 339),(.str (S [95,108,97,119,95,114,101,97,100]) 340),(.str (S [47,99,108,97,105,109,47,99,117,116,46,112,121]) 341),(.int 109 0),(.int 1 0),(.int 0 0),(.int 0 0),(.int 3 0),(.ref 123),(.bool true),(.int 181 0),(.ref 124),.none,.none,.none,(.ref 125),(.int 342 0),(.int 109 0),(.str (S [47,99,108,97,105,109,47,99,117,116,46,112,121]) 343)].toArray), [].toArray⟩
noncomputable def o127 (_ : Params) : Obj := fn (stm 9) (S [95,108,97,119,95,114,101,97,100]) (.str (S [108,97,119,95,110,98,48,49,49,50,95,48,50]) 313) (.ref 126)
noncomputable def o131 (_ : Params) : Obj := ⟨(.type "code"), none, (.fields [(.str (S [108,97,119]) 345),(.str (S [108,97,119]) 346),(.str (S [47,99,108,97,105,109,47,99,117,116,46,112,121]) 347),(.int 133 0),(.int 1 0),(.int 0 0),(.int 0 0),(.int 3 0),(.ref 128),(.bool true),(.int 181 0),(.ref 129),.none,.none,.none,(.ref 130),(.int 348 0),(.int 133 0),(.str (S [47,99,108,97,105,109,47,99,117,116,46,112,121]) 349)].toArray), [].toArray⟩
noncomputable def o132 (_ : Params) : Obj := fn (stm 10) (S [108,97,119]) (.str (S [108,97,119,95,110,98,48,49,49,50,95,48,50]) 313) (.ref 131)
/-- the top's objects -/
noncomputable def G (P : Params) (a : Nat) : Option Obj := (pick a 83 (some (o83 P)) (pick a 42 (some (o42 P)) (pick a 4 (some (o4 P)) (pick a 2 (some (o2 P)) (pick a 0 (some (o0 P)) none none) (pick a 3 (some (o3 P)) none none)) (pick a 35 (some (o35 P)) (pick a 34 (some (o34 P)) none none) (pick a 41 (some (o41 P)) none none))) (pick a 59 (some (o59 P)) (pick a 49 (some (o49 P)) (pick a 48 (some (o48 P)) none none) (pick a 58 (some (o58 P)) none none)) (pick a 77 (some (o77 P)) (pick a 76 (some (o76 P)) none none) none))) (pick a 115 (some (o115 P)) (pick a 109 (some (o109 P)) (pick a 100 (some (o100 P)) (pick a 84 (some (o84 P)) none none) (pick a 101 (some (o101 P)) none none)) (pick a 114 (some (o114 P)) (pick a 110 (some (o110 P)) none none) none)) (pick a 127 (some (o127 P)) (pick a 122 (some (o122 P)) (pick a 121 (some (o121 P)) none none) (pick a 126 (some (o126 P)) none none)) (pick a 132 (some (o132 P)) (pick a 131 (some (o131 P)) none none) none))))
end Mine
end
noncomputable section
namespace Mine
/-! ## Objects -/
/-- the hash as the trees reckon it -/
noncomputable def hq (P : Params) (x : Str) : Int := match x.cps.toList with
  | [] => 0
  | _ :: _ => PySem.W.ZFast.zw12210062019545310541 (P.strHash x.cps)
noncomputable def nt (P : Params) (x : Str) (t : Tok) (v : Value) : DictEntry := ⟨hq P x, .str x t, v⟩
noncomputable def lst (vs : List Value) (n : Nat) : Obj := ⟨.type "list", none, .seq ⟨vs⟩ n, #[]⟩
noncomputable def tup (vs : List Value) : Obj := ⟨.type "tuple", none, .seq ⟨vs⟩ 0, #[]⟩
noncomputable def dic (es : List DictEntry) (n : Nat) : Obj := ⟨.type "dict", none, .dict ⟨es⟩ n, #[]⟩
noncomputable def fra (es : List DictEntry) (n : Nat) : Obj := ⟨.type "frame", none, .dict ⟨es⟩ n, #[]⟩
noncomputable def cel (v : Value) : Obj := ⟨.type "cell", none, .cell (some v), #[]⟩
noncomputable def fld (c : String) (vs : List Value) : Obj := ⟨.type c, none, .fields ⟨vs⟩, #[]⟩
noncomputable def one (c : Nat) : Str := ⟨⟨[c]⟩⟩
noncomputable def ret (v : Value) : Result := .ok (.ret v)
noncomputable def k_self : Str := S [115, 101, 108, 102]
noncomputable def k_size : Str := S [115, 105, 122, 101]
noncomputable def k_ch : Str := S [99, 104]
noncomputable def k_token : Str := S [116, 111, 107, 101, 110]
noncomputable def k_fiter : Str := S [102, 105, 116, 101, 114]
noncomputable def k_lineno : Str := S [108, 105, 110, 101, 110, 111]
noncomputable def k_instream : Str := S [105, 110, 115, 116, 114, 101, 97, 109]
noncomputable def k_whitespace : Str := S [119, 104, 105, 116, 101, 115, 112, 97, 99, 101]
noncomputable def k_pushback : Str := S [112, 117, 115, 104, 98, 97, 99, 107]
noncomputable def k_read : Str := S [114, 101, 97, 100]
noncomputable def k_fp : Str := S [102, 112]
noncomputable def k_text : Str := S [116, 101, 120, 116]
noncomputable def k_stream : Str := S [115, 116, 114, 101, 97, 109]
noncomputable def k_lexer : Str := S [108, 101, 120, 101, 114]
noncomputable def k_records : Str := S [114, 101, 99, 111, 114, 100, 115]
noncomputable def k_record : Str := S [114, 101, 99, 111, 114, 100]
noncomputable def k_key : Str := S [107, 101, 121]
noncomputable def k_requests : Str := S [114, 101, 113, 117, 101, 115, 116, 115]
noncomputable def k_mark : Str := S [109, 97, 114, 107]
noncomputable def k_seconds : Str := S [115, 101, 99, 111, 110, 100, 115]
noncomputable def k_left : Str := S [108, 101, 102, 116]
noncomputable def k_sign : Str := S [115, 105, 103, 110]
noncomputable def k_word : Str := S [119, 111, 114, 100]
noncomputable def k_way : Str := S [119, 97, 121]
noncomputable def k_k : Str := S [107]
noncomputable def k_numbers : Str := S [110, 117, 109, 98, 101, 114, 115]
noncomputable def k_pieces : Str := S [112, 105, 101, 99, 101, 115]
noncomputable def k_x : Str := S [120]
noncomputable def k_third : Str := S [116, 104, 105, 114, 100]
noncomputable def k_figure : Str := S [102, 105, 103, 117, 114, 101]
noncomputable def k_agents : Str := S [97, 103, 101, 110, 116, 115]
noncomputable def k_delay : Str := S [100, 101, 108, 97, 121]
noncomputable def k_rate : Str := S [114, 97, 116, 101]
noncomputable def k_entry : Str := S [101, 110, 116, 114, 121]
noncomputable def k_agent : Str := S [97, 103, 101, 110, 116]
noncomputable def k_pair : Str := S [112, 97, 105, 114]
noncomputable def k_useragents : Str := S [117, 115, 101, 114, 97, 103, 101, 110, 116, 115]
noncomputable def k_rulelines : Str := S [114, 117, 108, 101, 108, 105, 110, 101, 115]
noncomputable def k_req_rate : Str := S [114, 101, 113, 95, 114, 97, 116, 101]
noncomputable def k_ret : Str := S [114, 101, 116]
noncomputable def k_script : Str := S [115, 99, 114, 105, 112, 116]
noncomputable def k_drawn : Str := S [100, 114, 97, 119, 110]
noncomputable def k_who : Str := S [119, 104, 111]
noncomputable def k_wait : Str := S [119, 97, 105, 116]
noncomputable def k_often : Str := S [111, 102, 116, 101, 110]
noncomputable def k_texts : Str := S [116, 101, 120, 116, 115]
noncomputable def k_each : Str := S [101, 97, 99, 104]
noncomputable def k_page : Str := S [112, 97, 103, 101]
noncomputable def k_dot0 : Str := S [46, 48]
noncomputable def wsS : Str := S [10, 9, 13, 32]
/-! ## read -/
noncomputable def rdS : Stmt := (bodOf (stm 9)).getD 1 nop
noncomputable def rdQ : Str := S [95,108,97,119,95,114,101,97,100,46,60,108,111,99,97,108,115,62,46,114,101,97,100]
noncomputable def sLeft : Str := k_left
noncomputable def rdO (cl ct cd : Addr) : Obj :=
  ⟨.type "function", none, .func { name := namOf rdS, qualname := rdQ, params := parOf rdS, body := .stmts (bodOf rdS), scope := scoOf rdS, globals := 3, closure := [(sLeft, cl)], defaults := .none, kwdefaults := .none, pyModule := .str (S [108,97,119,95,110,98,48,49,49,50,95,48,50]) 313, code := .ref cd, closureTuple := .ref ct, builtins := 0 }, #[]⟩
/-- a code object, of which the second field is read -/
noncomputable def cdO (v0 : Value) (q : Str) (t : Tok) (vs : List Value) : Obj := ⟨.type "code", none, .fields ⟨v0 :: .str q t :: vs⟩, #[]⟩
noncomputable def nilS : Str := ⟨⟨[]⟩⟩
noncomputable def envD (sc : Scope) (q : Str) (L f : Addr) (cells : List (Str × Addr)) (cd : Value) : Env :=
  { scope := sc, locals := L, globals := 3, cells := cells, qual := q ++ Str.ofString ".<locals>.", func := some f, code := cd, frame := some L, builtins := 0 }
/-! ## the one row of the world that these trees ask, both ways the same -/
noncomputable def tw (v : World) (b : Bool) : World := { v with params := { v.params with followText := fun s => match instDecidableEqString s "special-get-raises" with
  | .isTrue _ => b
  | .isFalse _ => v.params.followText s } }
theorem tw_self (w : World) : tw w (w.params.followText "special-get-raises") = w := by
  obtain ⟨dr, P⟩ := w
  show (⟨dr, { P with followText := _ }⟩ : World) = ⟨dr, P⟩
  congr 1
  cases P
  congr 1
  funext s
  dsimp only
  split
  · rename_i h _; rw [h]
  · rfl
theorem tw_all {p : World → Prop} (ht : ∀ v, p (tw v true)) (hf : ∀ v, p (tw v false)) (w : World) : p w := by
  rw [← tw_self w]
  cases w.params.followText "special-get-raises" with
  | true => exact ht w
  | false => exact hf w
noncomputable def twT (v : World) : World := tw v true
noncomputable def twF (v : World) : World := tw v false
theorem tw_fa {α : Type} {f g : World → α} (ht : f ∘ twT = g ∘ twT) (hf : f ∘ twF = g ∘ twF) : ∀ w, f w = g w :=
  fun w => tw_all (p := fun w => f w = g w) (fun v => congrFun ht v) (fun v => congrFun hf v) w
theorem noLimit {P : Params} {h : Heap} {fs : Facts} {sz : Nat} (D : Rep (G P) h fs sz) : h.NoLimit :=
  ⟨fun _ => none, ⟨o2 P, #[], 0, D.grd 2 _ (by kernel_rfl), rfl, fun _ h => by simp at h, fun _ => rfl⟩, rfl⟩
/-! ## One stage: run, then meet a call, a door, an end or another turn -/
theorem Since.trans {h₀ h h' : Heap} {fs₀ fs fs' : Facts} (S : Since h₀ fs₀ h fs) (S' : Since h fs h' fs') : Since h₀ fs₀ h' fs' := by
  refine ⟨Nat.le_trans S.le S'.le, fun b o e hx => S'.keep b o (S.keep b o e hx) fun y hy ey => ?_, fun x hx => ?_⟩
  · rcases S.own y hy with ⟨z, hz, ez⟩ | hle
    · exact hx z hz (ez.trans ey)
    · exact absurd (Heap.lt_size e) (by rw [← ey]; exact Nat.not_lt.mpr hle)
  · rcases S'.own x hx with ⟨y, hy, ey⟩ | hle
    · have := S.own y hy
      rwa [ey] at this
    · exact .inr (Nat.le_trans S.le hle)
/-- a code by itself -/
noncomputable def LCon {β : Type} (prog : Program) (w : World) (G : Nat → Option Obj) (k : Nat) (c : Code) (fs1 : Facts) (res : β → Result) (fs2 : β → Facts) (X : β → Prop) : Prop :=
  ∀ (A : Around), Fit k A → ∀ (h : Heap) (sz tk : Nat) (g : Array GenState) (d : Drawn) (os : OsState), Rep G h fs1 sz → codeAny (model prog w) A c (Post G g d os h fs1 res fs2 X) ⟨h, g, d, tk, os⟩
theorem LCon.con {β : Type} {prog : Program} {w : World} {G : Nat → Option Obj} {k : Nat} {c : Code} {fs1 : Facts} {res : β → Result} {fs2 : β → Facts} {X : β → Prop} (C : LCon prog w G k c fs1 res fs2 X) : Con prog w G k c fs1 res fs2 X :=
  fun A hA h sz tk g d os D => Ok.of_code (C A hA h sz tk g d os D)
theorem lcon_in {β : Type} {prog : Program} {w : World} {G : Nat → Option Obj} {fs1 : Facts} {res : β → Result} {fs2 : β → Facts} {X : β → Prop} {k : Nat} {c : Code} (hc : heavy c = false)
    (H : ∀ (A : Around), Fit k (A.under c) → Fit (k + 1) A → ∀ (h : Heap) (sz tk : Nat) (g : Array GenState) (d : Drawn) (os : OsState), Rep G h fs1 sz → Since h fs1 h fs1 →
      Means prog w (A.under c) (QF prog w A (Post G g d os h fs1 res fs2 X)) (fun e s' => Post G g d os h fs1 res fs2 X (.error e) s') (.top (den c)) ⟨h, g, d, tk, os⟩) : LCon prog w G (k + 1) c fs1 res fs2 X :=
  fun A hA h sz tk g d os D => code_in (H A (under_fit hA hc) hA h sz tk g d os D (Since.start h fs1))
section
variable {α : Type} {prog : Program} {w : World} {A : Around} {Q : α → Shared → Prop} {E : Value → Shared → Prop} {G : Nat → Option Obj}
noncomputable abbrev exm (prog : Program) (w : World) (G : Nat → Option Obj) (cur : Cur α) (fs : Facts) (sz tk : Nat) (pl : List Nat) : Mc α := ex ⟨prog, w.params⟩ G 400 cur fs sz tk [] pl
theorem gu {β : Type} {k : Nat} {c : Code} {fs1 : Facts} {res : β → Result} {fs2 : β → Facts} {X : β → Prop} (C : Con prog w G k c fs1 res fs2 X)
    {h h₀ : Heap} {fs fs₀ : Facts} {sz tk : Nat} {g : Array GenState} {d : Drawn} {os : OsState} {cur : Cur α} (pl : List Nat) (fs' : Facts) (sz' tk' : Nat) (is : List Nat) (hA : Fit (k + 1) A) (D : Rep G h fs sz) (S : Since h₀ fs₀ h fs)
    (e : ((exm prog w G cur fs sz tk pl).fs, (exm prog w G cur fs sz tk pl).sz, (exm prog w G cur fs sz tk pl).tk, (exm prog w G cur fs sz tk pl).eqs.map (·.1), cal (exm prog w G cur fs sz tk pl).cur, small (cl (exm prog w G cur fs sz tk pl).cur)) = (fs', sz', tk', (exm prog w G cur fs sz tk pl).eqs.map (·.2), some c, true))
    (B : Sub is fs' fs1) (ha : ∀ x, ((fs2 x).take is.length).map (·.1) = fs1.map (·.1))
    (H : ∀ x h' sz'' tk'', X x → Rep G h' (mer is fs' (fs2 x)) sz'' → Since h₀ fs₀ h' (mer is fs' (fs2 x)) → Means prog w A Q E (nxt (exm prog w G cur fs sz tk pl).cur (res x)) ⟨h', g, d, tk'', os⟩) : Means prog w A Q E cur ⟨h, g, d, tk, os⟩ := by
  rw [Prod.mk.injEq, Prod.mk.injEq, Prod.mk.injEq, Prod.mk.injEq, Prod.mk.injEq] at e
  obtain ⟨e1, e2, e3, e4, e5, e6⟩ := e
  refine ex_sound hA.1 400 cur h fs sz tk [] pl D S (AllEq.of e4) fun h' D' S' => ?_
  unfold exm at *
  rw [e1] at D' S'
  exact use C is hA D' S' e5 e6 B ha H
theorem gd {β : Type} {A' : Around} {E' : Value → Shared → Prop} {res : β → Result} {fs2 : β → Facts} {X : β → Prop} {k j : Nat}
    {h h₀ : Heap} {fs fs₀ : Facts} {sz tk : Nat} {g : Array GenState} {d : Drawn} {os : OsState} {P : Params} {cur : Cur Fin} (c' : Code) (pl : List Nat) (fs' : Facts) (sz' tk' : Nat) (hA : Fit j A') (hA1 : Fit (k + 1) A) (D : Rep (Mine.G P) h fs sz) (S : Since h₀ fs₀ h fs)
    (e : ((exm prog w (Mine.G P) cur fs sz tk pl).fs, (exm prog w (Mine.G P) cur fs sz tk pl).sz, (exm prog w (Mine.G P) cur fs sz tk pl).tk, (exm prog w (Mine.G P) cur fs sz tk pl).eqs.map (·.1), (exm prog w (Mine.G P) cur fs sz tk pl).cur) = (fs', sz', tk', (exm prog w (Mine.G P) cur fs sz tk pl).eqs.map (·.2), .top (door c')))
    (hq : c'.quiet = true) (hh : heavy c' = false)
    (H : ∀ h', Fit k (A.under c') → Rep (Mine.G P) h' fs' sz' → Since h₀ fs₀ h' fs' → Means prog w (A.under c') (QF prog w A (Post (Mine.G P) g d os h₀ fs₀ res fs2 X)) (fun e s' => Post (Mine.G P) g d os h₀ fs₀ res fs2 X (.error e) s') (.top (den c')) ⟨h', g, d, tk', os⟩) :
    Means prog w A' (QF prog w A (Post (Mine.G P) g d os h₀ fs₀ res fs2 X)) E' cur ⟨h, g, d, tk, os⟩ := by
  rw [Prod.mk.injEq, Prod.mk.injEq, Prod.mk.injEq, Prod.mk.injEq] at e
  obtain ⟨e1, e2, e3, e4, e5⟩ := e
  refine ex_sound hA.1 400 cur h fs sz tk [] pl D S (AllEq.of e4) fun h' D' S' => ?_
  unfold exm at *
  rw [e1] at D' S'
  rw [e2] at D'
  rw [e3]
  exact at_door e5 hA (noLimit D') hq (code_in (H h' (under_fit hA1 hh) D' S'))
theorem gt {β : Type} {A' : Around} {E' : Value → Shared → Prop} {fs1 : Facts} {res : β → Result} {fs2 : β → Facts} {X : β → Prop} {k j : Nat}
    {h h₀ : Heap} {fs : Facts} {sz tk : Nat} {g : Array GenState} {d : Drawn} {os : OsState} {cur : Cur Fin} (c' : Code) (pl : List Nat) (fs' : Facts) (sz' tk' : Nat) (hA : Fit j A') (hA1 : Fit (k + 1) A) (D : Rep G h fs sz) (S : Since h₀ fs1 h fs)
    (e : ((exm prog w G cur fs sz tk pl).fs, (exm prog w G cur fs sz tk pl).sz, (exm prog w G cur fs sz tk pl).tk, (exm prog w G cur fs sz tk pl).eqs.map (·.1), (exm prog w G cur fs sz tk pl).cur) = (fs', sz', tk', (exm prog w G cur fs sz tk pl).eqs.map (·.2), .top (.pure (.again c'))))
    (hq : c'.quiet = true) (hh : heavy c' = false)
    (H : ∀ h', Fit k (A.under c') → Rep G h' fs' sz' → Since h₀ fs1 h' fs' → Means prog w (A.under c') (QF prog w A (Post G g d os h₀ fs1 res fs2 X)) (fun e s' => Post G g d os h₀ fs1 res fs2 X (.error e) s') (.top (den c')) ⟨h', g, d, tk', os⟩) :
    Means prog w A' (QF prog w A (Post G g d os h₀ fs1 res fs2 X)) E' cur ⟨h, g, d, tk, os⟩ := by
  rw [Prod.mk.injEq, Prod.mk.injEq, Prod.mk.injEq, Prod.mk.injEq] at e
  obtain ⟨e1, e2, e3, e4, e5⟩ := e
  refine ex_sound hA.1 400 cur h fs sz tk [] pl D S (AllEq.of e4) fun h' D' S' => ?_
  unfold exm at *
  rw [e1] at D' S'
  rw [e2] at D'
  rw [e3]
  exact at_pure e5 ⟨hq, code_in (H h' (under_fit hA1 hh) D' S')⟩
theorem gf {β : Type} {A' : Around} {E' : Value → Shared → Prop} {fs1 : Facts} {res : β → Result} {fs2 : β → Facts} {X : β → Prop} {j : Nat} {f : Flow}
    {h h₀ : Heap} {fs : Facts} {sz tk : Nat} {g : Array GenState} {d : Drawn} {os : OsState} {cur : Cur Fin} (x : β) (pl : List Nat) (is : List Nat) (hA : Fit j A') (D : Rep G h fs sz) (S : Since h₀ fs1 h fs)
    (e : ((exm prog w G cur fs sz tk pl).eqs.map (·.1), sel is (exm prog w G cur fs sz tk pl).fs, (exm prog w G cur fs sz tk pl).cur) = ((exm prog w G cur fs sz tk pl).eqs.map (·.2), fs2 x, .top (.pure (.done f))))
    (hn : is.Nodup) (hr : .ok f = res x) (hX : X x) : Means prog w A' (QF prog w A (Post G g d os h₀ fs1 res fs2 X)) E' cur ⟨h, g, d, tk, os⟩ := by
  rw [Prod.mk.injEq, Prod.mk.injEq] at e
  obtain ⟨e1, e2, e3⟩ := e
  refine ex_sound hA.1 400 cur h fs sz tk [] pl D S (AllEq.of e1) fun h' D' S' => ?_
  unfold exm at *
  exact at_pure e3 ⟨x, h', _, _, hr, rfl, e2 ▸ D'.sel hn, e2 ▸ S'.sel, hX⟩
theorem gfE {β : Type} {A' : Around} {fs1 : Facts} {res : β → Result} {fs2 : β → Facts} {X : β → Prop} {j : Nat} {v : Value}
    {h h₀ : Heap} {fs : Facts} {sz tk : Nat} {g : Array GenState} {d : Drawn} {os : OsState} {cur : Cur Fin} (x : β) (pl : List Nat) (is : List Nat) (hA : Fit j A') (D : Rep G h fs sz) (S : Since h₀ fs1 h fs)
    (e : ((exm prog w G cur fs sz tk pl).eqs.map (·.1), sel is (exm prog w G cur fs sz tk pl).fs, (exm prog w G cur fs sz tk pl).cur) = ((exm prog w G cur fs sz tk pl).eqs.map (·.2), fs2 x, .top (.raise v)))
    (hn : is.Nodup) (hr : .error v = res x) (hX : X x) : Means prog w A' (QF prog w A (Post G g d os h₀ fs1 res fs2 X)) (fun e s' => Post G g d os h₀ fs1 res fs2 X (.error e) s') cur ⟨h, g, d, tk, os⟩ := by
  rw [Prod.mk.injEq, Prod.mk.injEq] at e
  obtain ⟨e1, e2, e3⟩ := e
  refine ex_sound hA.1 400 cur h fs sz tk [] pl D S (AllEq.of e1) fun h' D' S' => ?_
  unfold exm at *
  exact at_raise e3 ⟨x, h', _, _, hr, rfl, e2 ▸ D'.sel hn, e2 ▸ S'.sel, hX⟩
theorem ga {β : Type} {A' : Around} {E' : Value → Shared → Prop} {fs0 fs1 : Facts} {res : β → Result} {fs2 : β → Facts} {X : β → Prop} {k j : Nat} {c' : Code} (C : LCon prog w G k c' fs1 res fs2 X)
    {h h₀ : Heap} {fs : Facts} {sz tk : Nat} {g : Array GenState} {d : Drawn} {os : OsState} {cur : Cur Fin} (pl : List Nat) (is : List Nat) (hA : Fit j A') (hA1 : Fit k A) (D : Rep G h fs sz) (S : Since h₀ fs0 h fs)
    (e : ((exm prog w G cur fs sz tk pl).eqs.map (·.1), sel is (exm prog w G cur fs sz tk pl).fs, (exm prog w G cur fs sz tk pl).cur) = ((exm prog w G cur fs sz tk pl).eqs.map (·.2), fs1, .top (.pure (.again c'))))
    (hn : is.Nodup) (hq : c'.quiet = true) : Means prog w A' (QF prog w A (Post G g d os h₀ fs0 res fs2 X)) E' cur ⟨h, g, d, tk, os⟩ := by
  rw [Prod.mk.injEq, Prod.mk.injEq] at e
  obtain ⟨e1, e2, e3⟩ := e
  refine ex_sound hA.1 400 cur h fs sz tk [] pl D S (AllEq.of e1) fun h' D' S' => ?_
  unfold exm at *
  refine at_pure e3 ⟨hq, codeAny_mono (C A hA1 h' _ _ g d os (e2 ▸ D'.sel hn)) fun r s' hp => ?_⟩
  obtain ⟨x, h2, sz2, tk2, hr, hs, D2, S2, hX⟩ := hp
  exact ⟨x, h2, sz2, tk2, hr, hs, D2, (e2 ▸ S'.sel (is := is) : Since h₀ fs0 h' fs1).trans S2, hX⟩
theorem gp {h h₀ : Heap} {fs fs₀ : Facts} {sz tk : Nat} {g : Array GenState} {d : Drawn} {os : OsState} {cur : Cur α} (v : α) (pl : List Nat) (fs' : Facts) (sz' tk' : Nat) (hA : A.handled = none) (D : Rep G h fs sz) (S : Since h₀ fs₀ h fs)
    (e : ((exm prog w G cur fs sz tk pl).fs, (exm prog w G cur fs sz tk pl).sz, (exm prog w G cur fs sz tk pl).tk, (exm prog w G cur fs sz tk pl).eqs.map (·.1), (exm prog w G cur fs sz tk pl).cur) = (fs', sz', tk', (exm prog w G cur fs sz tk pl).eqs.map (·.2), .top (.pure v)))
    (H : ∀ h', Rep G h' fs' sz' → Since h₀ fs₀ h' fs' → Q v ⟨h', g, d, tk', os⟩) : Means prog w A Q E cur ⟨h, g, d, tk, os⟩ := by
  rw [Prod.mk.injEq, Prod.mk.injEq, Prod.mk.injEq, Prod.mk.injEq] at e
  obtain ⟨e1, e2, e3, e4, e5⟩ := e
  refine ex_sound hA 400 cur h fs sz tk [] pl D S (AllEq.of e4) fun h' D' S' => ?_
  unfold exm at *
  rw [e1] at D' S'
  rw [e2] at D'
  rw [e3]
  exact at_pure e5 (H h' D' S')
theorem gr {h h₀ : Heap} {fs fs₀ : Facts} {sz tk : Nat} {g : Array GenState} {d : Drawn} {os : OsState} {cur : Cur α} (v : Value) (pl : List Nat) (fs' : Facts) (sz' tk' : Nat) (hA : A.handled = none) (D : Rep G h fs sz) (S : Since h₀ fs₀ h fs)
    (e : ((exm prog w G cur fs sz tk pl).fs, (exm prog w G cur fs sz tk pl).sz, (exm prog w G cur fs sz tk pl).tk, (exm prog w G cur fs sz tk pl).eqs.map (·.1), (exm prog w G cur fs sz tk pl).cur) = (fs', sz', tk', (exm prog w G cur fs sz tk pl).eqs.map (·.2), .top (.raise v)))
    (H : ∀ h', Rep G h' fs' sz' → Since h₀ fs₀ h' fs' → E v ⟨h', g, d, tk', os⟩) : Means prog w A Q E cur ⟨h, g, d, tk, os⟩ := by
  rw [Prod.mk.injEq, Prod.mk.injEq, Prod.mk.injEq, Prod.mk.injEq] at e
  obtain ⟨e1, e2, e3, e4, e5⟩ := e
  refine ex_sound hA 400 cur h fs sz tk [] pl D S (AllEq.of e4) fun h' D' S' => ?_
  unfold exm at *
  rw [e1] at D' S'
  rw [e2] at D'
  rw [e3]
  exact at_raise e5 (H h' D' S')
theorem gam {β : Type} {A' : Around} {E' : Value → Shared → Prop} {fs0 fs1 : Facts} {res : β → Result} {fs2 fs3 : β → Facts} {X : β → Prop} {k j : Nat} {c' : Code} (C : LCon prog w G k c' fs1 res fs2 X)
    {h h₀ : Heap} {fs : Facts} {sz tk : Nat} {g : Array GenState} {d : Drawn} {os : OsState} {cur : Cur Fin} (pl : List Nat) (fs' : Facts) (is js : List Nat) (hA : Fit j A') (hA1 : Fit k A) (D : Rep G h fs sz) (S : Since h₀ fs0 h fs)
    (e : ((exm prog w G cur fs sz tk pl).eqs.map (·.1), (exm prog w G cur fs sz tk pl).fs, (exm prog w G cur fs sz tk pl).cur) = ((exm prog w G cur fs sz tk pl).eqs.map (·.2), fs', .top (.pure (.again c'))))
    (B : Sub is fs' fs1) (ha : ∀ x, ((fs2 x).take is.length).map (·.1) = fs1.map (·.1)) (hj : js.Nodup) (hm : ∀ x, sel js (mer is fs' (fs2 x)) = fs3 x) (hq : c'.quiet = true) : Means prog w A' (QF prog w A (Post G g d os h₀ fs0 res fs3 X)) E' cur ⟨h, g, d, tk, os⟩ := by
  rw [Prod.mk.injEq, Prod.mk.injEq] at e
  obtain ⟨e1, e2, e3⟩ := e
  refine ex_sound hA.1 400 cur h fs sz tk [] pl D S (AllEq.of e1) fun h' D' S' => ?_
  unfold exm at *
  rw [e2] at D' S'
  refine at_pure e3 ⟨hq, codeAny_mono (C A hA1 h' _ _ g d os (B.eq ▸ D'.sel B.nd)) fun r s' hp => ?_⟩
  obtain ⟨x, h2, sz2, tk2, hr, hs, D2, S2, hX⟩ := hp
  exact ⟨x, h2, sz2, tk2, hr, hs, hm x ▸ (D'.mer B D2 S2 (ha x)).sel hj, hm x ▸ (S'.mer D' B D2 S2 (ha x)).sel, hX⟩
end
/-! ## the lexer's objects -/
noncomputable abbrev Chs := List (Nat × Tok)
noncomputable def chs : Chs → List Value
  | [] => []
  | p :: l => .str (one p.1) p.2 :: chs l
theorem chs_length : ∀ l : Chs, (chs l).length = l.length
  | [] => rfl
  | _ :: l => congrArg (· + 1) (chs_length l)
structure LX where
  (lx ld fn fd rd cl ct cd lf pb : Addr)
  (a1 a2 a3 a4 a5 a6 a7 : Tok)
  v0 : Value
  vs : List Value
  dt : FuncData
noncomputable def lexD (P : Params) (x : LX) (ln : Int) (tl : Tok) : Obj := dic [nt P k_lineno x.a1 (.int ln tl), nt P k_instream x.a2 (.ref x.fn), nt P k_whitespace x.a3 (.str wsS x.a4), nt P k_pushback x.a5 (.ref x.pb)] 4
noncomputable def LX.fs (x : LX) (P : Params) (ln : Int) (tl : Tok) (cs : Chs) (n : Nat) : Facts :=
  [(x.lx, ⟨.ref 59, some x.ld, .plain, #[]⟩), (x.ld, lexD P x ln tl), (x.fn, ⟨.type "function", some x.fd, .func x.dt, #[]⟩), (x.fd, dic [nt P k_read x.a6 (.ref x.rd)] 1),
   (x.rd, rdO x.cl x.ct x.cd), (x.cd, cdO x.v0 rdQ x.a7 x.vs), (x.cl, cel (.ref x.lf)), (x.lf, lst (chs cs) n), (x.pb, lst [] 0)]
end Mine
end
noncomputable section
namespace Mine
/-! ## Built-ins by the library's rules -/
section
variable {prog : Program} {w : World} {G : Nat → Option Obj}
theorem Rep.hd {h : Heap} {a : Addr} {o : Obj} {fs : Facts} {sz : Nat} (D : Rep G h ((a, o) :: fs) sz) : h.get? a = some o := D.has (a, o) (.head _)
theorem post_upd {β : Type} {g : Array GenState} {d : Drawn} {os : OsState} {h : Heap} {a : Addr} {o o' : Obj} {f : Obj → Obj} {sz tk : Nat} {r : Result} {res : β → Result} {fs2 : β → Facts} {X : β → Prop} (x : β)
    (D : Rep G h [(a, o)] sz) (hf : f o = o') (hz : o'.isFreed = false) (hr : r = res x) (he : fs2 x = [(a, o')]) (hX : X x) : Post G g d os h [(a, o)] res fs2 X r ⟨h.update a f, g, d, tk, os⟩ := by
  have D' := D.update (i := 0) (p := (a, o)) (f := f) rfl (by show (f o).isFreed = false; rw [hf]; exact hz)
  have S' := (Since.start h [(a, o)]).update (i := 0) (p := (a, o)) (f := f) rfl
  refine ⟨x, _, sz, tk, hr, rfl, ?_, ?_, hX⟩
  · rw [he, ← hf]; exact D'
  · rw [he, ← hf]; exact S'
theorem post_same {β : Type} {g : Array GenState} {d : Drawn} {os : OsState} {h : Heap} {fs : Facts} {sz tk : Nat} {r : Result} {res : β → Result} {fs2 : β → Facts} {X : β → Prop} (x : β)
    (D : Rep G h fs sz) (hr : r = res x) (he : fs2 x = fs) (hX : X x) : Post G g d os h fs res fs2 X r ⟨h, g, d, tk, os⟩ :=
  ⟨x, h, sz, tk, hr, rfl, he ▸ D, he ▸ Since.start h fs, hX⟩
theorem isList_lst {h : Heap} {l : Addr} {vs : List Value} {n : Nat} (e : h.get? l = some (lst vs n)) : h.IsList l ⟨vs⟩ := ⟨_, e, rfl, n, rfl⟩
theorem c_len (l : Addr) (vs : List Value) (n : Nat) (hl : vs.length < 2 ^ 60) : Con prog w G 0 (.builtin "len" ⟨[.ref l], []⟩) [(l, lst vs n)] (fun t : Tok => ret (.int vs.length t)) (fun _ => [(l, lst vs n)]) (fun _ => True) := by
  intro A hA h sz tk g d os D
  have hs : (⟨vs⟩ : Array Value).size = vs.length := rfl
  refine Ok.of_code (codeAny_builtin entry_len ?_)
  refine wpAny_mono (wpAny_len_body_list (Q := fun r s' => r = .int (⟨vs⟩ : Array Value).size (tk + 1) ∧ s' = ⟨h, g, d, tk + 1 + 1, os⟩) (isList_lst D.hd) (by rw [hs]; omega) ⟨rfl, rfl⟩) (fun fin s' hp => ?_) fun _ _ e => e
  obtain ⟨r, rfl, rfl, rfl⟩ := hp
  exact post_same _ D rfl rfl trivial
theorem mapSeq_lst {f : Array Value → Array Value} {vs vs' : List Value} {n : Nat} (hf : f ⟨vs⟩ = ⟨vs'⟩) (hne : vs'.length ≠ vs.length) : Obj.mapSeq f (lst vs n) = lst vs' (n + 1) := by
  show (⟨_, _, .seq (f ⟨vs⟩) (if (f ⟨vs⟩).size == (⟨vs⟩ : Array Value).size then n else n + 1), _⟩ : Obj) = _
  rw [hf]
  have : ((⟨vs'⟩ : Array Value).size == (⟨vs⟩ : Array Value).size) = false := by
    show (vs'.length == vs.length) = false
    exact beq_eq_false_iff_ne.mpr hne
  rw [this]
  rfl
theorem c_pop0 (l : Addr) (v : Value) (vs : List Value) (n : Nat) (t : Tok) (hl : vs.length + 1 ≤ sizeLine) : Con prog w G 0 (.call (.builtin "list.pop") ⟨[.ref l, .int 0 t], []⟩) [(l, lst (v :: vs) n)] (fun _ : Unit => ret v) (fun _ => [(l, lst vs (n + 1))]) (fun _ => True) := by
  intro A hA h sz tk g d os D
  refine Ok.of_call (call_meets PySem.F.slot_list_pop ⟨_, D.hd, rfl⟩ PySem.F.entry_list_pop (PySem.F.args_list_pop_2 _ _) (PySem.MeetsSeq.list_pop_at l ⟨v :: vs⟩ n 0 t 0 v rfl ?_ rfl hl) ⟨D.hd, ?_⟩)
  · show seqIndex? 0 (vs.length + 1) = some 0
    simp [seqIndex?]
  · refine post_upd () D (mapSeq_lst ?_ (by rw [List.length_cons]; omega)) rfl rfl rfl trivial
    have : (0 : Nat) < (⟨v :: vs⟩ : Array Value).size := Nat.succ_pos _
    unfold Array.eraseIdxIfInBounds
    rw [dif_pos this]
    apply Array.toList_inj.mp
    rw [Array.toList_eraseIdx]
    rfl
theorem c_append (l : Addr) (v : Value) (vs : List Value) (n : Nat) (hl : vs.length ≤ sizeLine) : Con prog w G 0 (.call (.builtin "list.append") ⟨[.ref l, v], []⟩) [(l, lst vs n)] (fun _ : Unit => ret .none) (fun _ => [(l, lst (vs ++ [v]) (n + 1))]) (fun _ => True) := by
  intro A hA h sz tk g d os D
  refine Ok.of_call (call_meets slot_list_append ⟨_, D.hd, rfl⟩ entry_list_append (args_list_append _ _) (list_append l ⟨vs⟩ n v hl) ⟨D.hd, ?_⟩)
  refine post_upd () D (mapSeq_lst ?_ (by rw [List.length_append]; simp)) rfl rfl rfl trivial
  apply Array.toList_inj.mp
  simp
/-! ### texts -/
theorem c_eq (a b : Str) (t u : Tok) (B : Bool) (hB : (a.cps.toList == b.cps.toList) = B) : Con prog w G 0 (.call (.builtin "str.__eq__") ⟨[.str a t, .str b u], []⟩) [] (fun _ : Unit => ret (.bool B)) (fun _ => []) (fun _ => True) := by
  intro A hA h sz tk g d os D
  exact Ok.of_call (call_gives PySem.F.slot_str_eq (typeIs_str _ a t) PySem.F.entry_str_eq (PySem.F.args_str_eq_2 _ _) (gives_str_eq a b t u) (by rw [hB]; exact post_same () D rfl rfl trivial))
theorem c_ne (a b : Str) (t u : Tok) (B : Bool) (hB : (a.cps.toList != b.cps.toList) = B) : Con prog w G 0 (.call (.builtin "str.__ne__") ⟨[.str a t, .str b u], []⟩) [] (fun _ : Unit => ret (.bool B)) (fun _ => []) (fun _ => True) := by
  intro A hA h sz tk g d os D
  exact Ok.of_call (call_gives slot_str_ne (typeIs_str _ a t) entry_str_ne (args_str_ne _ _) (gives_str_ne a b t u) (by rw [hB]; exact post_same () D rfl rfl trivial))
theorem c_in (a b : Str) (t u : Tok) (B : Bool) (hB : (!(Builtin.Str.occurrences a b 0 a.length 1).isEmpty) = B) : Con prog w G 0 (.call (.builtin "str.__contains__") ⟨[.str a t, .str b u], []⟩) [] (fun _ : Unit => ret (.bool B)) (fun _ => []) (fun _ => True) := by
  intro A hA h sz tk g d os D
  exact Ok.of_call (call_gives PySem.F.slot_str_contains (typeIs_str _ a t) PySem.F.entry_str_contains (PySem.F.args_str_contains_2 _ _) (gives_str_contains a b t u) (by rw [hB]; exact post_same () D rfl rfl trivial))
theorem c_add (a b : Str) (t u : Tok) (hl : a.length + b.length ≤ sizeLine) : Con prog w G 0 (.call (.builtin "str.__add__") ⟨[.str a t, .str b u], []⟩) [] (fun t' : Tok => ret (.str (a ++ b) t')) (fun _ => []) (fun _ => True) := by
  intro A hA h sz tk g d os D
  exact Ok.of_call (call_str_add (fun t' tk' => post_same t' D rfl rfl trivial) hl)
end
end Mine
end
noncomputable section
namespace Mine
noncomputable def cel0 : Obj := ⟨.type "cell", none, .cell none, #[]⟩
noncomputable def tbO (vs : List Value) : Obj := ⟨.none, none, .fields ⟨vs⟩, #[]⟩
/-! ## More built-ins, and facts that stay behind -/
section
variable {prog : Program} {w : World} {G : Nat → Option Obj}
theorem strs4 (k : Str) (t : Tok) (a1 a2 a3 a4 : Str) (t1 t2 t3 t4 : Tok) : ∀ y, y ∈ (⟨[.str a1 t1, .str a2 t2, .str a3 t3, .str a4 t4]⟩ : Array Value) → MeetsSeq.EqGives y (.str k t) (match y with | .str a _ => a == k | _ => false) := by
  intro y hy
  have hy' : y ∈ [Value.str a1 t1, .str a2 t2, .str a3 t3, .str a4 t4] := by simpa using hy
  simp only [List.mem_cons, List.not_mem_nil, or_false] at hy'
  rcases hy' with rfl | rfl | rfl | rfl <;> exact eqGives_str _ _ _ _
theorem c_lin4 (l : Addr) (n : Nat) (k : Str) (t : Tok) (a1 a2 a3 a4 : Str) (t1 t2 t3 t4 : Tok) (B : Bool) (hB : (a1 == k || (a2 == k || (a3 == k || (a4 == k || false)))) = B) :
    Con prog w G 0 (.call (.builtin "list.__contains__") ⟨[.ref l, .str k t], []⟩) [(l, lst [.str a1 t1, .str a2 t2, .str a3 t3, .str a4 t4] n)] (fun _ : Unit => ret (.bool B)) (fun _ => [(l, lst [.str a1 t1, .str a2 t2, .str a3 t3, .str a4 t4] n)]) (fun _ => True) := by
  intro A hA h sz tk g d os D
  refine Ok.of_call (call_meets PySem.F.slot_list_contains ⟨_, D.hd, rfl⟩ PySem.F.entry_list_contains (PySem.F.args_list_contains_2 _ _) (PySem.MeetsSeq.list_contains l _ n (.str k t) _ (strs4 k t a1 a2 a3 a4 t1 t2 t3 t4)) ⟨D.hd, ?_⟩)
  refine post_same () D ?_ rfl trivial
  show Except.ok (Flow.ret (.bool _)) = Except.ok (Flow.ret (.bool B))
  rw [← hB, ← Array.any_toList]
  rfl
theorem c_int (x : Str) (t : Tok) (n : Int) (hn : PySem.intText? x = some n) (hl : x.length ≤ 640) : Con prog w G 0 (.call (.type "int") ⟨[.str x t], []⟩) [] (fun t' : Tok => ret (.int n t')) (fun _ => []) (fun _ => True) := by
  intro A hA h sz tk g d os D
  exact Ok.of_call (KIN.call_text hn hl (post_same tk D rfl rfl trivial))
end
/-- facts that stay behind -/
theorem Rep.selT {G : Nat → Option Obj} {h : Heap} {C T : Facts} {sz : Nat} {js : List Nat} (D : Rep G h (C ++ T) sz) (hj : js.Nodup) : Rep G h (Mine.sel js C ++ T) sz := by
  have hm : ∀ p ∈ Mine.sel js C ++ T, p ∈ C ++ T := fun p hp => by
    rcases List.mem_append.mp hp with hp | hp
    · obtain ⟨i, _, e⟩ := sel_mem hp
      exact List.mem_append_left _ (List.mem_of_getElem? e)
    · exact List.mem_append_right _ hp
  have hn := D.nd
  rw [List.map_append, List.nodup_append] at hn
  refine ⟨D.size, fun p hp => D.has p (hm p hp), ?_, D.grd, fun p hp => D.low p (hm p hp)⟩
  rw [List.map_append, List.nodup_append]
  refine ⟨sel_nodup hn.1 hj, hn.2.1, fun a ha b hb => hn.2.2 a ?_ b hb⟩
  obtain ⟨p, hp, rfl⟩ := List.mem_map.mp ha
  obtain ⟨i, _, e⟩ := sel_mem hp
  exact List.mem_map_of_mem (List.mem_of_getElem? e)
theorem Since.sub {h₀ h : Heap} {fs₀ fs fs' : Facts} (S : Since h₀ fs₀ h fs) (hm : ∀ p ∈ fs', p ∈ fs) : Since h₀ fs₀ h fs' := ⟨S.le, S.keep, fun x hx => S.own x (hm x hx)⟩
theorem Since.selT {h₀ h : Heap} {fs₀ C T : Facts} {js : List Nat} (S : Since h₀ fs₀ h (C ++ T)) : Since h₀ fs₀ h (Mine.sel js C ++ T) := S.sub fun p hp => by
  rcases List.mem_append.mp hp with hp | hp
  · obtain ⟨i, _, e⟩ := sel_mem hp
    exact List.mem_append_left _ (List.mem_of_getElem? e)
  · exact List.mem_append_right _ hp
theorem Rep.keepK {G : Nat → Option Obj} {h₀ h' h2 : Heap} {fs0 fs' fs2 : Facts} {sz sz2 : Nat} {is ks : List Nat} (D' : Rep G h' fs' sz) (S' : Since h₀ fs0 h' fs') (D2 : Rep G h2 fs2 sz2) (S2 : Since h' (Mine.sel is fs') h2 fs2) (hn : (is ++ ks).Nodup) :
    Rep G h2 (fs2 ++ Mine.sel ks fs') sz2 ∧ Since h₀ fs0 h2 (fs2 ++ Mine.sel ks fs') := by
  have hn' := List.nodup_append.mp hn
  have kq : ∀ p ∈ Mine.sel ks fs', p ∈ fs' ∧ ∀ q ∈ Mine.sel is fs', q.1 ≠ p.1 := fun p hp => by
    obtain ⟨j, hj, ej⟩ := sel_mem hp
    refine ⟨List.mem_of_getElem? ej, fun q hq eq => ?_⟩
    obtain ⟨i, hi, ei⟩ := sel_mem hq
    exact hn'.2.2 i hi j hj (nd_inj D'.nd ei ej eq)
  have S3 := (S'.sel (is := is)).trans S2
  refine ⟨⟨D2.size, fun p hp => ?_, ?_, D2.grd, fun p hp => ?_⟩, S3.le, S3.keep, fun p hp => ?_⟩
  · rcases List.mem_append.mp hp with hp | hp
    · exact D2.has p hp
    · exact S2.keep p.1 p.2 (D'.has p (kq p hp).1) (kq p hp).2
  · rw [List.map_append, List.nodup_append]
    refine ⟨D2.nd, sel_nodup D'.nd hn'.2.1, fun a ha b hb => ?_⟩
    obtain ⟨p, hp, rfl⟩ := List.mem_map.mp ha
    obtain ⟨q, hq, rfl⟩ := List.mem_map.mp hb
    intro e
    rcases S2.own p hp with ⟨z, hz, ez⟩ | hle
    · exact (kq q hq).2 z hz (ez.trans e)
    · rw [e] at hle
      exact absurd (Heap.lt_size (D'.has q (kq q hq).1)) (Nat.not_lt.mpr hle)
  · rcases List.mem_append.mp hp with hp | hp
    · exact D2.low p hp
    · exact D'.low p (kq p hp).1
  · rcases List.mem_append.mp hp with hp | hp
    · exact S3.own p hp
    · exact S'.own p (kq p hp).1
section
variable {α : Type} {prog : Program} {w : World} {A : Around} {Q : α → Shared → Prop} {E : Value → Shared → Prop} {G : Nat → Option Obj}
/-- a call, met by a contract that keeps no names; some objects stay behind -/
theorem guk {β : Type} {k : Nat} {c : Code} {fs1 : Facts} {res : β → Result} {fs2 : β → Facts} {X : β → Prop} (C : Con prog w G k c fs1 res fs2 X)
    {h h₀ : Heap} {fs fs₀ : Facts} {sz tk : Nat} {g : Array GenState} {d : Drawn} {os : OsState} {cur : Cur α} (pl : List Nat) (fs' : Facts) (sz' tk' : Nat) (is ks : List Nat) (hA : Fit (k + 1) A) (D : Rep G h fs sz) (S : Since h₀ fs₀ h fs)
    (e : ((exm prog w G cur fs sz tk pl).fs, (exm prog w G cur fs sz tk pl).sz, (exm prog w G cur fs sz tk pl).tk, (exm prog w G cur fs sz tk pl).eqs.map (·.1), cal (exm prog w G cur fs sz tk pl).cur, small (cl (exm prog w G cur fs sz tk pl).cur)) = (fs', sz', tk', (exm prog w G cur fs sz tk pl).eqs.map (·.2), some c, true))
    (B : sel is fs' = fs1) (hn : (is ++ ks).Nodup)
    (H : ∀ x h' sz'' tk'', X x → Rep G h' (fs2 x ++ sel ks fs') sz'' → Since h₀ fs₀ h' (fs2 x ++ sel ks fs') → Means prog w A Q E (nxt (exm prog w G cur fs sz tk pl).cur (res x)) ⟨h', g, d, tk'', os⟩) : Means prog w A Q E cur ⟨h, g, d, tk, os⟩ := by
  rw [Prod.mk.injEq, Prod.mk.injEq, Prod.mk.injEq, Prod.mk.injEq, Prod.mk.injEq] at e
  obtain ⟨e1, e2, e3, e4, e5, e6⟩ := e
  refine ex_sound hA.1 400 cur h fs sz tk [] pl D S (AllEq.of e4) fun h' D' S' => ?_
  unfold exm at *
  rw [e1] at D' S'
  refine at_call e5 (Ok.mono (C _ (arC_fit hA e6) h' _ _ g d os (B ▸ D'.sel (List.nodup_append.mp hn).1)) fun r s' hp => ?_)
  obtain ⟨x, h2, sz2, tk2, rfl, rfl, D2, S2, hX⟩ := hp
  have DS := D'.keepK S' D2 (B ▸ S2) hn
  exact H x h2 sz2 tk2 hX DS.1 DS.2
end
section
variable {prog : Program} {w : World} {A : Around} {G : Nat → Option Obj}
/-- another turn, met by a contract that keeps no names; some objects stay behind -/
theorem gak {β β' : Type} {A' : Around} {E' : Value → Shared → Prop} {fs0 fs1 : Facts} {res : β → Result} {fs2 : β → Facts} {X : β → Prop} {res' : β' → Result} {fs3 : β' → Facts} {X' : β' → Prop} {k j : Nat} {c' : Code} (C : LCon prog w G k c' fs1 res fs2 X)
    {h h₀ : Heap} {fs : Facts} {sz tk : Nat} {g : Array GenState} {d : Drawn} {os : OsState} {cur : Cur Fin} (f : β → β') (pl : List Nat) (fs' K : Facts) (is ks : List Nat) (hA : Fit j A') (hA1 : Fit k A) (D : Rep G h fs sz) (S : Since h₀ fs0 h fs)
    (e : ((exm prog w G cur fs sz tk pl).eqs.map (·.1), (exm prog w G cur fs sz tk pl).fs, (exm prog w G cur fs sz tk pl).cur) = ((exm prog w G cur fs sz tk pl).eqs.map (·.2), fs', .top (.pure (.again c'))))
    (B : (sel is fs', sel ks fs') = (fs1, K)) (hn : (is ++ ks).Nodup) (hs : ∀ x, fs3 (f x) = fs2 x ++ K) (hr : ∀ x, res x = res' (f x)) (hX : ∀ x, X x → X' (f x)) (hq : c'.quiet = true) :
    Means prog w A' (QF prog w A (Post G g d os h₀ fs0 res' fs3 X')) E' cur ⟨h, g, d, tk, os⟩ := by
  rw [Prod.mk.injEq, Prod.mk.injEq] at e
  obtain ⟨e1, e2, e3⟩ := e
  obtain ⟨B1, B2⟩ := Prod.mk.inj B
  refine ex_sound hA.1 400 cur h fs sz tk [] pl D S (AllEq.of e1) fun h' D' S' => ?_
  unfold exm at *
  rw [e2] at D' S'
  refine at_pure e3 ⟨hq, codeAny_mono (C A hA1 h' _ _ g d os (B1 ▸ D'.sel (List.nodup_append.mp hn).1)) fun r s' hp => ?_⟩
  obtain ⟨x, h2, sz2, tk2, hr', hs', D2, S2, hX'⟩ := hp
  have DS := D'.keepK S' D2 (B1 ▸ S2) hn
  rw [B2, ← hs x] at DS
  exact ⟨f x, h2, sz2, tk2, hr'.trans (hr x), hs', DS.1, DS.2, hX x hX'⟩
end
section
variable {α : Type} {prog : Program} {w : World} {A : Around} {Q : α → Shared → Prop} {E : Value → Shared → Prop} {G : Nat → Option Obj}
/-- a call by a contract, behind a choice of the objects -/
theorem gus {β : Type} {k : Nat} {c : Code} {fs1 : Facts} {res : β → Result} {fs2 : β → Facts} {X : β → Prop} (C : Con prog w G k c fs1 res fs2 X)
    {h h₀ : Heap} {fs fs₀ : Facts} {sz tk : Nat} {g : Array GenState} {d : Drawn} {os : OsState} {cur : Cur α} (pl : List Nat) (fs' : Facts) (js : List Nat) (sz' tk' : Nat) (is : List Nat) (hA : Fit (k + 1) A) (D : Rep G h fs sz) (S : Since h₀ fs₀ h fs)
    (e : (sel js (exm prog w G cur fs sz tk pl).fs, (exm prog w G cur fs sz tk pl).sz, (exm prog w G cur fs sz tk pl).tk, (exm prog w G cur fs sz tk pl).eqs.map (·.1), cal (exm prog w G cur fs sz tk pl).cur, small (cl (exm prog w G cur fs sz tk pl).cur)) = (fs', sz', tk', (exm prog w G cur fs sz tk pl).eqs.map (·.2), some c, true))
    (hj : js.Nodup) (B : Sub is fs' fs1) (ha : ∀ x, ((fs2 x).take is.length).map (·.1) = fs1.map (·.1))
    (H : ∀ x h' sz'' tk'', X x → Rep G h' (mer is fs' (fs2 x)) sz'' → Since h₀ fs₀ h' (mer is fs' (fs2 x)) → Means prog w A Q E (nxt (exm prog w G cur fs sz tk pl).cur (res x)) ⟨h', g, d, tk'', os⟩) : Means prog w A Q E cur ⟨h, g, d, tk, os⟩ := by
  rw [Prod.mk.injEq, Prod.mk.injEq, Prod.mk.injEq, Prod.mk.injEq, Prod.mk.injEq] at e
  obtain ⟨e1, e2, e3, e4, e5, e6⟩ := e
  refine ex_sound hA.1 400 cur h fs sz tk [] pl D S (AllEq.of e4) fun h' D' S' => ?_
  unfold exm at *
  have D2 := D'.sel hj
  have S2 := S'.sel (is := js)
  rw [e1] at D2 S2
  exact use C is hA D2 S2 e5 e6 B ha H
end
/-! ## a frame around the rest of a run -/
section
variable {α : Type} {prog : Program} {w : World}
theorem postC_mono {A : Around} {R R' : Result → Shared → Prop} (hR : ∀ r s, R r s → R' r s) : ∀ a s, postC prog w A R a s → postC prog w A R' a s := by
  intro a s h
  cases a with
  | done f => exact hR _ _ h
  | again c' => exact ⟨h.1, codeAny_mono h.2 hR⟩
theorem endK_mono {A : Around} {Q Q' : α → Shared → Prop} {E E' : Value → Shared → Prop} (hQ : ∀ a s, Q a s → Q' a s) (hE : ∀ e s, E e s → E' e s) : ∀ (κ : Kn α) r s, endK prog w A Q E κ r s → endK prog w A Q' E' κ r s
  | .bot k, r, s, h => wpAny_mono h hQ hE
  | .ret c k κ, r, s, h => wpOwn_mono h (postC_mono (endK_mono hQ hE κ)) fun e s => endK_mono hQ hE κ _ s
theorem Means.mono {A : Around} {Q Q' : α → Shared → Prop} {E E' : Value → Shared → Prop} {cur : Cur α} {s : Shared} (h : Means prog w A Q E cur s) (hQ : ∀ a s, Q a s → Q' a s) (hE : ∀ e s, E e s → E' e s) : Means prog w A Q' E' cur s := by
  cases cur with
  | top t => exact wpAny_mono h hQ hE
  | inn c κ t => exact wpOwn_mono h (postC_mono (endK_mono hQ hE κ)) fun e s => endK_mono hQ hE κ _ s
end
theorem Rep.keepT {G : Nat → Option Obj} {h₀ h' h2 : Heap} {fs0 C T fs2 : Facts} {sz sz2 : Nat} (D' : Rep G h' (C ++ T) sz) (S' : Since h₀ fs0 h' (C ++ T)) (D2 : Rep G h2 fs2 sz2) (S2 : Since h' C h2 fs2) :
    Rep G h2 (fs2 ++ T) sz2 ∧ Since h₀ fs0 h2 (fs2 ++ T) := by
  have hd := D'.nd
  rw [List.map_append, List.nodup_append] at hd
  have kq : ∀ p ∈ T, p ∈ C ++ T ∧ ∀ q ∈ C, q.1 ≠ p.1 := fun p hp => ⟨List.mem_append_right _ hp, fun q hq e => hd.2.2 _ (List.mem_map_of_mem hq) _ (List.mem_map_of_mem hp) e⟩
  have S3 := (S'.sub (fs' := C) fun p hp => List.mem_append_left _ hp).trans S2
  refine ⟨⟨D2.size, fun p hp => ?_, ?_, D2.grd, fun p hp => ?_⟩, S3.le, S3.keep, fun p hp => ?_⟩
  · rcases List.mem_append.mp hp with hp | hp
    · exact D2.has p hp
    · exact S2.keep p.1 p.2 (D'.has p (kq p hp).1) (kq p hp).2
  · rw [List.map_append, List.nodup_append]
    refine ⟨D2.nd, hd.2.1, fun a ha b hb => ?_⟩
    obtain ⟨p, hp, rfl⟩ := List.mem_map.mp ha
    obtain ⟨q, hq, rfl⟩ := List.mem_map.mp hb
    intro e
    rcases S2.own p hp with ⟨z, hz, ez⟩ | hle
    · exact (kq q hq).2 z hz (ez.trans e)
    · rw [e] at hle
      exact absurd (Heap.lt_size (D'.has q (kq q hq).1)) (Nat.not_lt.mpr hle)
  · rcases List.mem_append.mp hp with hp | hp
    · exact D2.low p hp
    · exact D'.low p (kq p hp).1
  · rcases List.mem_append.mp hp with hp | hp
    · exact S3.own p hp
    · exact S'.own p (kq p hp).1
/-- the rest of the run does not touch `T` -/
theorem gfr {prog : Program} {w : World} {A A' : Around} {G : Nat → Option Obj} {β β' : Type} {fs0 : Facts} {res : β → Result} {fs2 : β → Facts} {X : β → Prop} {res' : β' → Result} {fs3 : β' → Facts} {X' : β' → Prop}
    {h h₀ : Heap} (C T : Facts) {sz tk : Nat} {g : Array GenState} {d : Drawn} {os : OsState} {cur : Cur Fin} (f : β → β') (D : Rep G h (C ++ T) sz) (S : Since h₀ fs0 h (C ++ T))
    (hs : ∀ x, fs3 (f x) = fs2 x ++ T) (hr : ∀ x, res x = res' (f x)) (hX : ∀ x, X x → X' (f x))
    (H : Rep G h C sz → Since h C h C → Means prog w A' (QF prog w A (Post G g d os h C res fs2 X)) (fun e s' => Post G g d os h C res fs2 X (.error e) s') cur ⟨h, g, d, tk, os⟩) :
    Means prog w A' (QF prog w A (Post G g d os h₀ fs0 res' fs3 X')) (fun e s' => Post G g d os h₀ fs0 res' fs3 X' (.error e) s') cur ⟨h, g, d, tk, os⟩ := by
  have up : ∀ r s', Post G g d os h C res fs2 X r s' → Post G g d os h₀ fs0 res' fs3 X' r s' := fun r s' hp => by
    obtain ⟨x, h2, sz2, tk2, hr', hs', D2, S2, hX'⟩ := hp
    have DS := D.keepT S D2 S2
    rw [← hs x] at DS
    exact ⟨f x, h2, sz2, tk2, hr'.trans (hr x), hs', DS.1, DS.2, hX x hX'⟩
  have hd := D.nd
  rw [List.map_append, List.nodup_append] at hd
  refine (H ⟨D.size, fun p hp => D.has p (List.mem_append_left _ hp), hd.1, D.grd, fun p hp => D.low p (List.mem_append_left _ hp)⟩ (Since.start h C)).mono (fun fin s' hq => ?_) fun e s' => up _ s'
  cases fin with
  | done f => exact up _ _ hq
  | again c' => exact ⟨hq.1, codeAny_mono hq.2 up⟩
/-- the objects in another order -/
theorem Rep.perm {G : Nat → Option Obj} {h : Heap} {fs fs' : Facts} {sz : Nat} (D : Rep G h fs sz) (p : fs.Perm fs') : Rep G h fs' sz :=
  ⟨D.size, fun q hq => D.has q (p.mem_iff.mpr hq), (p.map _).nodup_iff.mp D.nd, D.grd, fun q hq => D.low q (p.mem_iff.mpr hq)⟩
theorem Since.perm {h₀ h : Heap} {fs₀ fs fs' : Facts} (S : Since h₀ fs₀ h fs) (p : fs.Perm fs') : Since h₀ fs₀ h fs' := S.sub fun q hq => p.mem_iff.mpr hq
theorem perm3 (W T K : Facts) : ((W ++ T) ++ K).Perm ((W ++ K) ++ T) := by
  rw [List.append_assoc, List.append_assoc]
  exact List.Perm.append_left W List.perm_append_comm
theorem LCon.weak {β : Type} {prog : Program} {w : World} {G : Nat → Option Obj} {k : Nat} {c : Code} {fs1 : Facts} {res : β → Result} {fs2 : β → Facts} {X X' : β → Prop} (C : LCon prog w G k c fs1 res fs2 X) (hX : ∀ x, X x → X' x) : LCon prog w G k c fs1 res fs2 X' :=
  fun A hA h sz tk g d os D => codeAny_mono (C A hA h sz tk g d os D) fun r s' ⟨x, h2, sz2, tk2, e1, e2, D2, S2, hx⟩ => ⟨x, h2, sz2, tk2, e1, e2, D2, S2, hX x hx⟩
/-! ## data by facts -/
mutual
inductive Rd (F : Facts) : Value → PyData → Prop
  | none : Rd F .none .none
  | int (i t) : Rd F (.int i t) (.int i)
  | str (x t) : Rd F (.str x t) (.str x)
  | list {a vs n xs} : (a, lst vs n) ∈ F → RdA F vs xs → Rd F (.ref a) (.list xs)
  | tuple {a vs xs} : (a, tup vs) ∈ F → RdA F vs xs → Rd F (.ref a) (.tuple xs)
inductive RdA (F : Facts) : List Value → List PyData → Prop
  | nil : RdA F [] []
  | cons {v vs d ds} : Rd F v d → RdA F vs ds → RdA F (v :: vs) (d :: ds)
end
mutual
theorem Rd.mono {F F' : Facts} (hm : ∀ p ∈ F, p ∈ F') : ∀ {v : Value} {d : PyData}, Rd F v d → Rd F' v d
  | _, _, .none => .none
  | _, _, .int i t => .int i t
  | _, _, .str x t => .str x t
  | _, _, .list h r => .list (hm _ h) (RdA.mono hm r)
  | _, _, .tuple h r => .tuple (hm _ h) (RdA.mono hm r)
theorem RdA.mono {F F' : Facts} (hm : ∀ p ∈ F, p ∈ F') : ∀ {vs : List Value} {ds : List PyData}, RdA F vs ds → RdA F' vs ds
  | _, _, .nil => .nil
  | _, _, .cons h r => .cons (Rd.mono hm h) (RdA.mono hm r)
end
mutual
theorem Rd.reads {F : Facts} {h : Heap} (hh : ∀ p ∈ F, h.get? p.1 = some p.2) : ∀ {v : Value} {d : PyData}, Rd F v d → ∃ as, Reads h v d as
  | _, _, .none => ⟨_, .none⟩
  | _, _, .int i t => ⟨_, .int i t⟩
  | _, _, .str x t => ⟨_, .str x t⟩
  | _, _, .list hm r => let ⟨_, q⟩ := RdA.reads hh r; ⟨_, .list (hh _ hm) rfl rfl q⟩
  | _, _, .tuple hm r => let ⟨_, q⟩ := RdA.reads hh r; ⟨_, .tuple (hh _ hm) rfl rfl q⟩
theorem RdA.reads {F : Facts} {h : Heap} (hh : ∀ p ∈ F, h.get? p.1 = some p.2) : ∀ {vs : List Value} {ds : List PyData}, RdA F vs ds → ∃ as, ReadsAll h vs ds as
  | _, _, .nil => ⟨_, .nil⟩
  | _, _, .cons h r => let ⟨_, q⟩ := Rd.reads hh h; let ⟨_, q'⟩ := RdA.reads hh r; ⟨_, .cons q q'⟩
end
theorem RdA.app {F : Facts} : ∀ {vs us : List Value} {ds es : List PyData}, RdA F vs ds → RdA F us es → RdA F (vs ++ us) (ds ++ es)
  | _, _, _, _, .nil, r => r
  | _, _, _, _, .cons h q, r => .cons h (q.app r)
end Mine
end
noncomputable section
namespace Mine
/-! ## read and _read_char -/
noncomputable def rdE (L rd cl cd : Addr) : Env := envD (scoOf rdS) rdQ L rd [(sLeft, cl)] (.ref cd)
theorem c_read (w : World) (rd cl ct cd lf : Addr) (v0 : Value) (t1 t2 : Tok) (vs : List Value) (s : Str) (t4 : Tok) (l : List Value) (n : Nat) (hl : l.length + 1 ≤ 1000000) :
    LCon pw w (G w.params) 3 (.call (.ref rd) ⟨[.int 1 t2], []⟩) [(rd, rdO cl ct cd), (cd, cdO v0 rdQ t1 vs), (cl, cel (.ref lf)), (lf, lst (.str s t4 :: l) n)]
      (fun _ : Unit => ret (.str s t4)) (fun _ => [(rd, rdO cl ct cd), (cd, cdO v0 rdQ t1 vs), (cl, cel (.ref lf)), (lf, lst l (n + 1))]) (fun _ => True) := by
  refine lcon_in rfl fun A hA hA1 h sz tk g d os D E0 => ?_
  have hz : l.length + 1 ≤ sizeLine := by rw [sizeLine_eq]; omega
  have hz2 : (Value.str s t4 :: l).length < 2 ^ 60 := by rw [List.length_cons]; omega
  refine gd (Code.func (bodOf rdS) (rdE sz rd cl cd)) [1,2,5,5] [(rd, rdO cl ct cd), (cd, cdO v0 rdQ t1 vs), (cl, cel (.ref lf)), (lf, lst (.str s t4 :: l) n), (sz, fra [nt w.params k_size tk (.int 1 t2)] 1)] (sz + 1) (tk + 1) hA hA1 D E0 (by kernel_rfl) rfl rfl fun h1 hA2 D1 E1 => ?_
  refine gu (c_len lf (.str s t4 :: l) n hz2) [3,4,4] [(rd, rdO cl ct cd), (cd, cdO v0 rdQ t1 vs), (cl, cel (.ref lf)), (lf, lst (.str s t4 :: l) n), (sz, fra [nt w.params k_size tk (.int 1 t2)] 1)] (sz + 1) (tk + 1) [3] (hA2.le (by decide)) D1 E1 (by kernel_rfl) ⟨by decide, by kernel_rfl, rfl⟩ (fun _ => rfl) fun y h2 sz2 tk2 hX D2 E2 => ?_
  refine gu (c_pop0 lf (.str s t4) l n tk2 hz) [3,4,4,4,4] [(rd, rdO cl ct cd), (cd, cdO v0 rdQ t1 vs), (cl, cel (.ref lf)), (lf, lst (.str s t4 :: l) n), (sz, fra [nt w.params k_size tk (.int 1 t2)] 1)] sz2 (tk2 + 1) [3] (hA2.le (by decide)) D2 E2 (by kernel_rfl) ⟨by decide, by kernel_rfl, rfl⟩ (fun _ => rfl) fun y h3 sz3 tk3 hX D3 E3 => ?_
  exact gf (()) [] [0,1,2,3] hA2 D3 E3 (by kernel_rfl) (by decide) rfl (trivial)
theorem c_readE (w : World) (rd cl ct cd lf : Addr) (v0 : Value) (t1 t2 : Tok) (vs : List Value) (n : Nat) :
    LCon pw w (G w.params) 3 (.call (.ref rd) ⟨[.int 1 t2], []⟩) [(rd, rdO cl ct cd), (cd, cdO v0 rdQ t1 vs), (cl, cel (.ref lf)), (lf, lst [] n)]
      (fun t : Tok => ret (.str nilS t)) (fun _ => [(rd, rdO cl ct cd), (cd, cdO v0 rdQ t1 vs), (cl, cel (.ref lf)), (lf, lst [] n)]) (fun _ => True) := by
  refine lcon_in rfl fun A hA hA1 h sz tk g d os D E0 => ?_
  refine gd (Code.func (bodOf rdS) (rdE sz rd cl cd)) [1,2,5,5] [(rd, rdO cl ct cd), (cd, cdO v0 rdQ t1 vs), (cl, cel (.ref lf)), (lf, lst [] n), (sz, fra [nt w.params k_size tk (.int 1 t2)] 1)] (sz + 1) (tk + 1) hA hA1 D E0 (by kernel_rfl) rfl rfl fun h1 hA2 D1 E1 => ?_
  exact gf (tk + 3) [3,4,4,0,4,0,4,0,4] [0,1,2,3] hA2 D1 E1 (by kernel_rfl) (by decide) rfl (trivial)
noncomputable def rcQ : Str := S [95,110,101,116,114,99,108,101,120,46,95,114,101,97,100,95,99,104,97,114]
noncomputable def rcS : Stmt := inCls 2 1
noncomputable def rcE (L : Addr) : Env := envD (scoOf rcS) rcQ L 42 [] (.ref 41)
theorem c_rc (w : World) (x : LX) (ln : Int) (tl : Tok) (c : Nat) (t : Tok) (cs : Chs) (n : Nat) (hl : (chs cs).length + 1 ≤ 1000000) (hc : ((one c).cps.toList == (S [10]).cps.toList) = false) :
    LCon pw w (G w.params) 5 (.call (.ref 42) ⟨[.ref x.lx], []⟩) (x.fs w.params ln tl ((c, t) :: cs) n)
      (fun _ : Unit => ret (.str (one c) t)) (fun _ => x.fs w.params ln tl cs (n + 1)) (fun _ => True) := by
  refine lcon_in rfl fun A hA hA1 h sz tk g d os D E0 => ?_
  refine gd (Code.func (bodOf rcS) (rcE sz)) [0,0,10,10] [(x.1, ({ cls := .ref 59, dict := some x.ld })), (x.2, lexD w.params x ln tl), (x.3, ({ cls := .type "function", dict := some x.fd, data := Data.func x.dt })), (x.4, dic [nt w.params k_read x.a6 (.ref x.rd)] 1), (x.5, rdO x.cl x.ct x.cd), (x.8, cdO x.v0 rdQ x.a7 x.vs), (x.6, cel (.ref x.lf)), (x.9, lst (chs ((c, t) :: cs)) n), (x.10, lst [] 0), (sz, fra [nt w.params k_self tk (.ref x.1)] 1)] (sz + 1) (tk + 1) hA hA1 D E0 (by kernel_rfl) rfl rfl fun h1 hA2 D1 E1 => ?_
  refine gu (LCon.con (c_read w x.5 x.cl x.ct x.cd x.lf x.v0 x.a7 (tk + 3) x.vs (one (c, t).fst) (c, t).snd (chs cs) n hl)) [10,1,0,0,0,0,1,0,0,0,1,1,0,2,3,3,3,3,0,3,0,3,3,3,4,5] [(x.1, ({ cls := .ref 59, dict := some x.ld })), (x.2, lexD w.params x ln tl), (x.3, ({ cls := .type "function", dict := some x.fd, data := Data.func x.dt })), (x.4, dic [nt w.params k_read x.a6 (.ref x.rd)] 1), (x.5, rdO x.cl x.ct x.cd), (x.8, cdO x.v0 rdQ x.a7 x.vs), (x.6, cel (.ref x.lf)), (x.9, lst (chs ((c, t) :: cs)) n), (x.10, lst [] 0), (sz, fra [nt w.params k_self tk (.ref x.lx)] 1)] (sz + 1) (tk + 4) [4,5,6,7] (hA2.le (by decide)) D1 E1 (by kernel_rfl) ⟨by decide, by kernel_rfl, rfl⟩ (fun _ => rfl) fun y h2 sz2 tk2 hX D2 E2 => ?_
  refine gu (c_eq (one c) (S [10]) t (tk2 + 1) false hc) [10,10,10] [(x.1, ({ cls := .ref 59, dict := some x.ld })), (x.2, lexD w.params x ln tl), (x.3, ({ cls := .type "function", dict := some x.fd, data := Data.func x.dt })), (x.4, dic [nt w.params k_read x.a6 (.ref x.rd)] 1), (x.5, rdO x.cl x.ct x.cd), (x.8, cdO x.v0 rdQ x.a7 x.vs), (x.6, cel (.ref x.lf)), (x.9, lst (chs cs) (n + 1)), (x.10, lst [] 0), (sz, fra [nt w.params k_self tk (.ref x.1), nt w.params k_ch tk2 (.str (one (c, t).fst) t)] 2)] sz2 (tk2 + 2) [] (hA2.le (by decide)) D2 E2 (by generalize w = w'; revert w'; exact tw_fa (by kernel_rfl) (by kernel_rfl)) ⟨by decide, by kernel_rfl, rfl⟩ (fun _ => rfl) fun y h3 sz3 tk3 hX D3 E3 => ?_
  exact gf (()) [10] [0,1,2,3,4,5,6,7,8] hA2 D3 E3 (by generalize w = w'; revert w'; exact tw_fa (by kernel_rfl) (by kernel_rfl)) (by decide) rfl (trivial)
theorem c_rcN (w : World) (x : LX) (ln : Int) (tl : Tok) (t : Tok) (cs : Chs) (n : Nat) (hl : (chs cs).length + 1 ≤ 1000000) :
    LCon pw w (G w.params) 5 (.call (.ref 42) ⟨[.ref x.lx], []⟩) (x.fs w.params ln tl ((10, t) :: cs) n)
      (fun _ : Tok => ret (.str (one 10) t)) (fun tl' => x.fs w.params (ln + 1) tl' cs (n + 1)) (fun _ => True) := by
  refine lcon_in rfl fun A hA hA1 h sz tk g d os D E0 => ?_
  refine gd (Code.func (bodOf rcS) (rcE sz)) [0,0,10,10] [(x.1, ({ cls := .ref 59, dict := some x.ld })), (x.2, lexD w.params x ln tl), (x.3, ({ cls := .type "function", dict := some x.fd, data := Data.func x.dt })), (x.4, dic [nt w.params k_read x.a6 (.ref x.rd)] 1), (x.5, rdO x.cl x.ct x.cd), (x.8, cdO x.v0 rdQ x.a7 x.vs), (x.6, cel (.ref x.lf)), (x.9, lst (chs ((10, t) :: cs)) n), (x.10, lst [] 0), (sz, fra [nt w.params k_self tk (.ref x.1)] 1)] (sz + 1) (tk + 1) hA hA1 D E0 (by kernel_rfl) rfl rfl fun h1 hA2 D1 E1 => ?_
  refine gu (LCon.con (c_read w x.5 x.cl x.ct x.cd x.lf x.v0 x.a7 (tk + 3) x.vs (one (10, t).fst) (10, t).snd (chs cs) n hl)) [10,1,0,0,0,0,1,0,0,0,1,1,0,2,3,3,3,3,0,3,0,3,3,3,4,5] [(x.1, ({ cls := .ref 59, dict := some x.ld })), (x.2, lexD w.params x ln tl), (x.3, ({ cls := .type "function", dict := some x.fd, data := Data.func x.dt })), (x.4, dic [nt w.params k_read x.a6 (.ref x.rd)] 1), (x.5, rdO x.cl x.ct x.cd), (x.8, cdO x.v0 rdQ x.a7 x.vs), (x.6, cel (.ref x.lf)), (x.9, lst (chs ((10, t) :: cs)) n), (x.10, lst [] 0), (sz, fra [nt w.params k_self tk (.ref x.lx)] 1)] (sz + 1) (tk + 4) [4,5,6,7] (hA2.le (by decide)) D1 E1 (by kernel_rfl) ⟨by decide, by kernel_rfl, rfl⟩ (fun _ => rfl) fun y h2 sz2 tk2 hX D2 E2 => ?_
  exact gf (tk2 + 4) [10,10,10,0,0,10,1,0,0,0,0,1,0,0,0,1,1,0,2,0,0,1,0,0,0,0,1,0,0,1,0,1,0,0,0,1,0,2,2,2,10] [0,1,2,3,4,5,6,7,8] hA2 D2 E2 (by generalize w = w'; revert w'; exact tw_fa (by kernel_rfl) (by kernel_rfl)) (by decide) rfl (trivial)
theorem c_rcE (w : World) (x : LX) (ln : Int) (tl : Tok) (n : Nat) :
    LCon pw w (G w.params) 5 (.call (.ref 42) ⟨[.ref x.lx], []⟩) (x.fs w.params ln tl [] n)
      (fun t : Tok => ret (.str nilS t)) (fun _ => x.fs w.params ln tl [] n) (fun _ => True) := by
  refine lcon_in rfl fun A hA hA1 h sz tk g d os D E0 => ?_
  refine gd (Code.func (bodOf rcS) (rcE sz)) [0,0,10,10] [(x.1, ({ cls := .ref 59, dict := some x.ld })), (x.2, lexD w.params x ln tl), (x.3, ({ cls := .type "function", dict := some x.fd, data := Data.func x.dt })), (x.4, dic [nt w.params k_read x.a6 (.ref x.rd)] 1), (x.5, rdO x.cl x.ct x.cd), (x.8, cdO x.v0 rdQ x.a7 x.vs), (x.6, cel (.ref x.lf)), (x.9, lst (chs []) n), (x.10, lst [] 0), (sz, fra [nt w.params k_self tk (.ref x.1)] 1)] (sz + 1) (tk + 1) hA hA1 D E0 (by kernel_rfl) rfl rfl fun h1 hA2 D1 E1 => ?_
  refine gu (LCon.con (c_readE w x.5 x.cl x.ct x.cd x.lf x.v0 x.a7 (tk + 3) x.vs n)) [10,1,0,0,0,0,1,0,0,0,1,1,0,2,3,3,3,3,0,3,0,3,3,3,4,5] [(x.1, ({ cls := .ref 59, dict := some x.ld })), (x.2, lexD w.params x ln tl), (x.3, ({ cls := .type "function", dict := some x.fd, data := Data.func x.dt })), (x.4, dic [nt w.params k_read x.a6 (.ref x.rd)] 1), (x.5, rdO x.cl x.ct x.cd), (x.8, cdO x.v0 rdQ x.a7 x.vs), (x.6, cel (.ref x.lf)), (x.9, lst (chs []) n), (x.10, lst [] 0), (sz, fra [nt w.params k_self tk (.ref x.lx)] 1)] (sz + 1) (tk + 4) [4,5,6,7] (hA2.le (by decide)) D1 E1 (by kernel_rfl) ⟨by decide, by kernel_rfl, rfl⟩ (fun _ => rfl) fun y h2 sz2 tk2 hX D2 E2 => ?_
  exact gf (y) [10,10,10,0,0,10] [0,1,2,3,4,5,6,7,8] hA2 D2 E2 (by generalize w = w'; revert w'; exact tw_fa (by kernel_rfl) (by kernel_rfl)) (by decide) rfl (trivial)
/-! ## the bound method and the iterator -/
noncomputable def bmO (x : LX) : Obj := fld "method" [.ref 42, .ref x.lx]
noncomputable def itO (bm : Addr) (ts : Tok) : Obj := fld "callable_iterator" [.ref bm, .str nilS ts, .bool false]
theorem c_bm (w : World) (x : LX) (bm : Addr) (ln : Int) (tl : Tok) (c : Nat) (t : Tok) (cs : Chs) (n : Nat) (hl : (chs cs).length + 1 ≤ 1000000) (hc : ((one c).cps.toList == (S [10]).cps.toList) = false) :
    LCon pw w (G w.params) 6 (.call (.ref bm) ⟨[], []⟩) ((bm, bmO x) :: x.fs w.params ln tl ((c, t) :: cs) n)
      (fun _ : Unit => ret (.str (one c) t)) (fun _ => (bm, bmO x) :: x.fs w.params ln tl cs (n + 1)) (fun _ => True) := by
  refine lcon_in rfl fun A hA hA1 h sz tk g d os D E0 => ?_
  exact gam (c_rc w x ln tl c t cs n hl hc) [1] [(bm, bmO x), (x.1, ({ cls := .ref 59, dict := some x.ld })), (x.2, lexD w.params x ln tl), (x.3, ({ cls := .type "function", dict := some x.fd, data := Data.func x.dt })), (x.4, dic [nt w.params k_read x.a6 (.ref x.rd)] 1), (x.5, rdO x.cl x.ct x.cd), (x.8, cdO x.v0 rdQ x.a7 x.vs), (x.6, cel (.ref x.lf)), (x.9, lst (chs ((c, t) :: cs)) n), (x.10, lst [] 0)] [1,2,3,4,5,6,7,8,9] [0,1,2,3,4,5,6,7,8,9] hA (hA1.le (by decide)) D E0 (by kernel_rfl) ⟨by decide, by kernel_rfl, rfl⟩ (fun _ => rfl) (by decide) (fun _ => by kernel_rfl) rfl
theorem c_bmN (w : World) (x : LX) (bm : Addr) (ln : Int) (tl : Tok) (t : Tok) (cs : Chs) (n : Nat) (hl : (chs cs).length + 1 ≤ 1000000) :
    LCon pw w (G w.params) 6 (.call (.ref bm) ⟨[], []⟩) ((bm, bmO x) :: x.fs w.params ln tl ((10, t) :: cs) n)
      (fun _ : Tok => ret (.str (one 10) t)) (fun tl' => (bm, bmO x) :: x.fs w.params (ln + 1) tl' cs (n + 1)) (fun _ => True) := by
  refine lcon_in rfl fun A hA hA1 h sz tk g d os D E0 => ?_
  exact gam (c_rcN w x ln tl t cs n hl) [1] [(bm, bmO x), (x.1, ({ cls := .ref 59, dict := some x.ld })), (x.2, lexD w.params x ln tl), (x.3, ({ cls := .type "function", dict := some x.fd, data := Data.func x.dt })), (x.4, dic [nt w.params k_read x.a6 (.ref x.rd)] 1), (x.5, rdO x.cl x.ct x.cd), (x.8, cdO x.v0 rdQ x.a7 x.vs), (x.6, cel (.ref x.lf)), (x.9, lst (chs ((10, t) :: cs)) n), (x.10, lst [] 0)] [1,2,3,4,5,6,7,8,9] [0,1,2,3,4,5,6,7,8,9] hA (hA1.le (by decide)) D E0 (by kernel_rfl) ⟨by decide, by kernel_rfl, rfl⟩ (fun _ => rfl) (by decide) (fun _ => by kernel_rfl) rfl
theorem c_bmE (w : World) (x : LX) (bm : Addr) (ln : Int) (tl : Tok) (n : Nat) :
    LCon pw w (G w.params) 6 (.call (.ref bm) ⟨[], []⟩) ((bm, bmO x) :: x.fs w.params ln tl [] n)
      (fun t : Tok => ret (.str nilS t)) (fun _ => (bm, bmO x) :: x.fs w.params ln tl [] n) (fun _ => True) := by
  refine lcon_in rfl fun A hA hA1 h sz tk g d os D E0 => ?_
  exact gam (c_rcE w x ln tl n) [1] [(bm, bmO x), (x.1, ({ cls := .ref 59, dict := some x.ld })), (x.2, lexD w.params x ln tl), (x.3, ({ cls := .type "function", dict := some x.fd, data := Data.func x.dt })), (x.4, dic [nt w.params k_read x.a6 (.ref x.rd)] 1), (x.5, rdO x.cl x.ct x.cd), (x.8, cdO x.v0 rdQ x.a7 x.vs), (x.6, cel (.ref x.lf)), (x.9, lst (chs []) n), (x.10, lst [] 0)] [1,2,3,4,5,6,7,8,9] [0,1,2,3,4,5,6,7,8,9] hA (hA1.le (by decide)) D E0 (by kernel_rfl) ⟨by decide, by kernel_rfl, rfl⟩ (fun _ => rfl) (by decide) (fun _ => by kernel_rfl) rfl
noncomputable def nxB (it : Addr) : Code := .builtin "callable_iterator.__next__" ⟨[.ref it], []⟩
noncomputable def nxC (it : Addr) : Code := .call (.builtin "callable_iterator.__next__") ⟨[.ref it], []⟩
theorem c_nx (w : World) (x : LX) (bm it : Addr) (ts : Tok) (ln : Int) (tl : Tok) (c : Nat) (t : Tok) (cs : Chs) (n : Nat) (hl : (chs cs).length + 1 ≤ 1000000) (hc : ((one (c + 1)).cps.toList == (S [10]).cps.toList) = false) :
    LCon pw w (G w.params) 8 (nxC it) ((it, itO bm ts) :: (bm, bmO x) :: x.fs w.params ln tl ((c + 1, t) :: cs) n)
      (fun _ : Unit => ret (.str (one (c + 1)) t)) (fun _ => (it, itO bm ts) :: (bm, bmO x) :: x.fs w.params ln tl cs (n + 1)) (fun _ => True) := by
  refine lcon_in rfl fun A hA hA1 h sz tk g d os D E0 => ?_
  refine gt (nxB it) [1] [(it, itO bm ts), (bm, bmO x), (x.1, ({ cls := .ref 59, dict := some x.ld })), (x.2, lexD w.params x ln tl), (x.3, ({ cls := .type "function", dict := some x.fd, data := Data.func x.dt })), (x.4, dic [nt w.params k_read x.a6 (.ref x.rd)] 1), (x.5, rdO x.cl x.ct x.cd), (x.8, cdO x.v0 rdQ x.a7 x.vs), (x.6, cel (.ref x.lf)), (x.9, lst (chs ((c + 1, t) :: cs)) n), (x.10, lst [] 0)] sz tk hA hA1 D E0 (by kernel_rfl) (by kernel_rfl) (by kernel_rfl) fun h1 hA2 D1 E1 => ?_
  refine gu (LCon.con (c_bm w x bm ln tl (c + 1) t cs n hl hc)) [1,1,2,0] [(it, itO bm ts), (bm, bmO x), (x.1, ({ cls := .ref 59, dict := some x.ld })), (x.2, lexD w.params x ln tl), (x.3, ({ cls := .type "function", dict := some x.fd, data := Data.func x.dt })), (x.4, dic [nt w.params k_read x.a6 (.ref x.rd)] 1), (x.5, rdO x.cl x.ct x.cd), (x.8, cdO x.v0 rdQ x.a7 x.vs), (x.6, cel (.ref x.lf)), (x.9, lst (chs ((c + 1, t) :: cs)) n), (x.10, lst [] 0)] sz tk [1,2,3,4,5,6,7,8,9,10] (hA2.le (by decide)) D1 E1 (by kernel_rfl) ⟨by decide, by kernel_rfl, rfl⟩ (fun _ => rfl) fun y h2 sz2 tk2 hX D2 E2 => ?_
  exact gf (()) [1,1,0,0] [0,1,2,3,4,5,6,7,8,9,10] hA2 D2 E2 (by generalize w = w'; revert w'; exact tw_fa (by kernel_rfl) (by kernel_rfl)) (by decide) rfl (trivial)
theorem c_nxN (w : World) (x : LX) (bm it : Addr) (ts : Tok) (ln : Int) (tl : Tok) (t : Tok) (cs : Chs) (n : Nat) (hl : (chs cs).length + 1 ≤ 1000000) :
    LCon pw w (G w.params) 8 (nxC it) ((it, itO bm ts) :: (bm, bmO x) :: x.fs w.params ln tl ((10, t) :: cs) n)
      (fun _ : Tok => ret (.str (one 10) t)) (fun tl' => (it, itO bm ts) :: (bm, bmO x) :: x.fs w.params (ln + 1) tl' cs (n + 1)) (fun _ => True) := by
  refine lcon_in rfl fun A hA hA1 h sz tk g d os D E0 => ?_
  refine gt (nxB it) [1] [(it, itO bm ts), (bm, bmO x), (x.1, ({ cls := .ref 59, dict := some x.ld })), (x.2, lexD w.params x ln tl), (x.3, ({ cls := .type "function", dict := some x.fd, data := Data.func x.dt })), (x.4, dic [nt w.params k_read x.a6 (.ref x.rd)] 1), (x.5, rdO x.cl x.ct x.cd), (x.8, cdO x.v0 rdQ x.a7 x.vs), (x.6, cel (.ref x.lf)), (x.9, lst (chs ((10, t) :: cs)) n), (x.10, lst [] 0)] sz tk hA hA1 D E0 (by kernel_rfl) (by kernel_rfl) (by kernel_rfl) fun h1 hA2 D1 E1 => ?_
  refine gu (LCon.con (c_bmN w x bm ln tl t cs n hl)) [1,1,2,0] [(it, itO bm ts), (bm, bmO x), (x.1, ({ cls := .ref 59, dict := some x.ld })), (x.2, lexD w.params x ln tl), (x.3, ({ cls := .type "function", dict := some x.fd, data := Data.func x.dt })), (x.4, dic [nt w.params k_read x.a6 (.ref x.rd)] 1), (x.5, rdO x.cl x.ct x.cd), (x.8, cdO x.v0 rdQ x.a7 x.vs), (x.6, cel (.ref x.lf)), (x.9, lst (chs ((10, t) :: cs)) n), (x.10, lst [] 0)] sz tk [1,2,3,4,5,6,7,8,9,10] (hA2.le (by decide)) D1 E1 (by kernel_rfl) ⟨by decide, by kernel_rfl, rfl⟩ (fun _ => rfl) fun y h2 sz2 tk2 hX D2 E2 => ?_
  exact gf (y) [1,1,0,0] [0,1,2,3,4,5,6,7,8,9,10] hA2 D2 E2 (by generalize w = w'; revert w'; exact tw_fa (by kernel_rfl) (by kernel_rfl)) (by decide) rfl (trivial)
end Mine
end
noncomputable section
namespace Mine
theorem entry_cnext : entryFor table "callable_iterator.__next__" = some Builtin.«callable_iterator.__next__» := entryFor_of_tree (by kernel_rfl)
noncomputable def itX : Obj := fld "callable_iterator" [.none, .none, .bool true]
noncomputable def excO (a : Addr) : Obj := fld "StopIteration" [.ref a, .none, .none, .none, .bool false, .none]
theorem c_nxE0 (w : World) (x : LX) (bm it : Addr) (ts : Tok) (ln : Int) (tl : Tok) (n : Nat) :
    LCon pw w (G w.params) 8 (nxB it) ((it, itO bm ts) :: (bm, bmO x) :: x.fs w.params ln tl [] n)
      (fun y : Addr × Addr => .error (.ref y.2)) (fun y => (it, itX) :: (bm, bmO x) :: x.fs w.params ln tl [] n ++ [(y.1, tup []), (y.2, excO y.1)]) (fun _ => True) := by
  intro A hA h sz tk g d os D
  refine codeAny_builtin entry_cnext ?_
  have hA' : Fit 7 (A.under (nxB it)) := under_fit hA (by kernel_rfl)
  have e0 := D.has (it, itO bm ts) (.head _)
  unfold Builtin.«callable_iterator.__next__»
  refine wpAny_bind (m := slotArgs "__next__" 0 _) (wpAny_pure ?_)
  refine wpAny_bind (wpAny_field (x := .bool false) e0 rfl rfl ?_)
  simp only [show (Value.bool false == Value.bool true) = false from rfl, Bool.false_eq_true, if_false]
  refine wpAny_bind (wpAny_field (x := .ref bm) e0 rfl rfl ?_)
  refine wpAny_bind (wpAny_attempt ?_)
  unfold callOutOfASlot
  refine wpAny_bind ?_
  have E0 := Since.start h ((it, itO bm ts) :: (bm, bmO x) :: x.fs w.params ln tl [] n)
  show Means pw w _ _ _ (.top (borrowsExactly (.ref bm))) _
  refine gp true [2, 0] ((it, itO bm ts) :: (bm, bmO x) :: x.fs w.params ln tl [] n) sz tk hA'.1 D E0 (by kernel_rfl) fun h1 D1 E1 => ?_
  simp only [if_true]
  show Means pw w _ _ _ (.top (callBorrowed (.ref bm) [])) _
  refine use (c_bmE w x bm ln tl n).con [1,2,3,4,5,6,7,8,9,10] (hA'.le (by decide)) D1 E1 (by kernel_rfl) (by kernel_rfl) ⟨by decide, by kernel_rfl, rfl⟩ (fun _ => rfl) fun y h2 sz2 tk2 hX D2 E2 => ?_
  refine at_pure (a := .str nilS y) rfl ?_
  have D2' : Rep (G w.params) h2 ((it, itO bm ts) :: (bm, bmO x) :: x.fs w.params ln tl [] n) sz2 := D2
  have E2' : Since h ((it, itO bm ts) :: (bm, bmO x) :: x.fs w.params ln tl [] n) h2 ((it, itO bm ts) :: (bm, bmO x) :: x.fs w.params ln tl [] n) := E2
  have e2 := D2'.has (it, itO bm ts) (.head _)
  refine wpAny_bind (wpAny_field (x := .bool false) e2 rfl rfl ?_)
  simp only [show (Value.bool false == Value.bool true) = false from rfl, Bool.false_eq_true, if_false]
  refine wpAny_bind (wpAny_field (x := .str nilS ts) e2 rfl rfl ?_)
  refine wpAny_bind (wpAny_holding (wpAny_eqBool_str ?_))
  simp only [decide_true, Bool.not_true, Bool.false_eq_true, if_false]
  show Means pw w _ _ _ (.top _) _
  refine gr (.ref (sz2 + 1)) [1,2,0,1,1,1,1,1,1] ((it, itX) :: (bm, bmO x) :: x.fs w.params ln tl [] n ++ [(sz2, tup []), (sz2 + 1, excO sz2)]) (sz2 + 2) tk2 hA'.1 D2' E2' (by kernel_rfl) fun h3 D3 E3 => ?_
  exact ⟨(sz2, sz2 + 1), h3, _, _, rfl, rfl, D3, E3, trivial⟩
theorem c_nxE (w : World) (x : LX) (bm it : Addr) (ts : Tok) (ln : Int) (tl : Tok) (n : Nat) :
    LCon pw w (G w.params) 9 (nxC it) ((it, itO bm ts) :: (bm, bmO x) :: x.fs w.params ln tl [] n)
      (fun y : Addr × Addr => .error (.ref y.2)) (fun y => (it, itX) :: (bm, bmO x) :: x.fs w.params ln tl [] n ++ [(y.1, tup []), (y.2, excO y.1)]) (fun _ => True) := by
  refine lcon_in rfl fun A hA hA1 h sz tk g d os D E0 => ?_
  refine ga (c_nxE0 w x bm it ts ln tl n) [1] [0,1,2,3,4,5,6,7,8,9,10] hA (hA1.le (by decide)) D E0 (by kernel_rfl) (by decide) (by kernel_rfl)
theorem c_nxX (w : World) (it : Addr) :
    LCon pw w (G w.params) 9 (nxC it) [(it, itX)]
      (fun y : Addr × Addr => .error (.ref y.2)) (fun y => [(it, itX), (y.1, tup []), (y.2, excO y.1)]) (fun _ => True) := by
  refine lcon_in rfl fun A hA hA1 h sz tk g d os D E0 => ?_
  refine gt (nxB it) [1] [(it, itX)] sz tk hA hA1 D E0 (by kernel_rfl) (by kernel_rfl) (by kernel_rfl) fun h1 hA2 D1 E1 => ?_
  exact gfE ((sz, sz + 1)) [1] [0,1,2] hA2 D1 E1 (by kernel_rfl) (by decide) rfl (trivial)
end Mine
end
set_option maxHeartbeats 1000000
noncomputable section
namespace Mine
/-! ## the iterator over a text -/
noncomputable def saO (x : Str) (t : Tok) (i : Nat) : Obj := fld "str_ascii_iterator" [.str x t, .int i 0]
noncomputable def saX (i : Nat) : Obj := fld "str_ascii_iterator" [.none, .int i 0]
section
variable {prog : Program} {w : World} {G : Nat → Option Obj}
theorem c_sit (x : Str) (t : Tok) (ha : x.cps.all (· < 128) = true) : Con prog w G 0 (.call (.builtin "str.__iter__") ⟨[.str x t], []⟩) [] (fun a : Addr => ret (.ref a)) (fun a => [(a, saO x t 0)]) (fun _ => True) := by
  intro A hA h sz tk g d os D
  refine Ok.of_call (wpAny_call_entry PySem.F.slot_str_iter (typeIs_str _ x t) PySem.F.entry_str_iter ?_ (PySem.F.args_str_iter_1 _))
  show wpAny _ _ (do PySem.ret (← newFields (if (true && x.cps.all (· < 128)) = true then "str_ascii_iterator" else "str_iterator") [.str x t, rawInt 0])) _ _ _
  rw [ha]
  refine wpAny_bind (wpAny_newObj_type (wpAny_pure ⟨_, rfl, ?_⟩))
  refine ⟨sz, _, sz + 1, tk, ?_, rfl, D.alloc (o := saO x t 0) rfl, (Since.start h []).alloc D _, trivial⟩
  show ret (.ref h.objs.size) = _
  rw [D.size]
theorem isSa {h : Heap} {it : Addr} {x : Str} {t : Tok} {i : Nat} (e : h.get? it = some (saO x t i)) : h.IsStrIter it "str_ascii_iterator" x t i := ⟨_, e, rfl, rfl⟩
theorem c_snx (it : Addr) (x : Str) (t : Tok) (i c : Nat) (hx : x.cps[i]? = some c) : Con prog w G 0 (.call (.builtin "str_ascii_iterator.__next__") ⟨[.ref it], []⟩) [(it, saO x t i)] (fun u : Tok => ret (.str (one c) u)) (fun _ => [(it, saO x t (i + 1))]) (fun _ => True) := by
  intro A hA h sz tk g d os D
  have hit := isSa D.hd
  refine Ok.of_call (wpAny_call_entry PySem.F.slot_str_ascii_iterator_next hit.typeIs PySem.F.entry_str_ascii_iterator_next ?_ (PySem.F.args_str_ascii_iterator_next_1 _))
  show wpAny _ _ (field (.ref it) 0 >>= _) _ _ _
  refine wpAny_bind (wpAny_field D.hd rfl (x := .str x t) rfl ?_)
  show wpAny _ _ (field (.ref it) 1 >>= _) _ _ _
  refine wpAny_bind (wpAny_field D.hd rfl (x := .int i 0) rfl ?_)
  simp only [Int.toNat_natCast, hx]
  refine wpAny_bind (wpAny_setField D.hd rfl (by simp) (wpAny_bind (wpAny_mkStr (wpAny_pure ⟨_, rfl, ?_⟩))))
  exact post_upd tk D (by rfl) rfl rfl rfl trivial
theorem c_snE (it : Addr) (x : Str) (t : Tok) (i : Nat) (hx : x.cps[i]? = none) : Con prog w G 0 (.call (.builtin "str_ascii_iterator.__next__") ⟨[.ref it], []⟩) [(it, saO x t i)] (fun y : Addr × Addr => .error (.ref y.2)) (fun y => [(it, saX i), (y.1, tup []), (y.2, excO y.1)]) (fun _ => True) := by
  intro A hA h sz tk g d os D
  have hit := isSa D.hd
  refine Ok.of_call (wpAny_call_entry PySem.F.slot_str_ascii_iterator_next hit.typeIs PySem.F.entry_str_ascii_iterator_next ?_ (PySem.F.args_str_ascii_iterator_next_1 _))
  show wpAny _ _ (field (.ref it) 0 >>= _) _ _ _
  refine wpAny_bind (wpAny_field D.hd rfl (x := .str x t) rfl ?_)
  show wpAny _ _ (field (.ref it) 1 >>= _) _ _ _
  refine wpAny_bind (wpAny_field D.hd rfl (x := .int i 0) rfl ?_)
  simp only [Int.toNat_natCast, hx]
  refine wpAny_bind (wpAny_rule (wpAny_bind (wpAny_setField D.hd rfl (by simp) (wpAny_bind (wpAny_letGo ?_)))))
  have D1 := D.update (i := 0) (p := (it, saO x t i)) (f := Obj.mapFields (·.setIfInBounds 0 .none)) rfl (by rfl)
  have E1 := (Since.start h [(it, saO x t i)]).update (i := 0) (p := (it, saO x t i)) (f := Obj.mapFields (·.setIfInBounds 0 .none)) rfl
  show Means prog w _ _ _ (.top _) _
  refine gr (.ref (sz + 1)) [] [(it, saX i), (sz, tup []), (sz + 1, excO sz)] (sz + 2) tk hA.1 D1 E1 (by kernel_rfl) fun h2 D2 E2 => ?_
  exact ⟨(sz, sz + 1), h2, sz + 2, tk, rfl, rfl, D2, E2, trivial⟩
end
end Mine
end
set_option maxHeartbeats 1000000
noncomputable section
namespace Mine
/-! ## a new lexer -/
noncomputable def inS : Stmt := inCls 2 0
noncomputable def inQ : Str := S [95,110,101,116,114,99,108,101,120,46,95,95,105,110,105,116,95,95]
noncomputable def inE (L : Addr) : Env := envD (scoOf inS) inQ L 35 [] (.ref 34)
structure NOut where
  (lx ld pb : Addr)
  (a1 a2 a3 a4 a5 tl : Tok)
noncomputable def nlD (P : Params) (fp : Addr) (o : NOut) : Obj := dic [nt P k_lineno o.a1 (.int 1 o.tl), nt P k_instream o.a2 (.ref fp), nt P k_whitespace o.a3 (.str wsS o.a4), nt P k_pushback o.a5 (.ref o.pb)] 4
theorem c_init (w : World) (lx ld fp : Addr) :
    LCon pw w (G w.params) 4 (.call (.ref 35) ⟨[.ref lx, .ref fp], []⟩) [(lx, ⟨.ref 59, some ld, .plain, #[]⟩), (ld, dic [] 0)] (fun o : NOut => ret .none) (fun o => [(lx, ⟨.ref 59, some ld, .plain, #[]⟩), (ld, nlD w.params fp o), (o.pb, lst [] 0)]) (fun _ => True) := by
  refine lcon_in rfl fun A hA hA1 h sz tk g d os D E0 => ?_
  refine gd (Code.func (bodOf inS) (inE sz)) [0,0,3,3,3,3] [(lx, (⟨(.ref 59), some ld, .plain, #[]⟩ : Obj)), (ld, dic [] 0), (sz, fra [nt w.params k_self tk (.ref lx), nt w.params k_fp (tk + 1) (.ref fp)] 2)] (sz + 1) (tk + 2) hA hA1 D E0 (by kernel_rfl) rfl rfl fun h1 hA2 D1 E1 => ?_
  exact gf ({ lx := lx, ld := ld, pb := sz + 1, a1 := tk + 4, a2 := tk + 6, a3 := tk + 9, a4 := tk + 7, a5 := tk + 11, tl := tk + 2 }) [3,1,0,0,0,0,1,0,0,1,0,1,0,0,0,1,0,2,2,2,3,3,1,0,0,0,0,1,0,0,1,0,1,0,0,0,1,0,2,2,2,3,1,0,0,0,0,1,0,0,1,0,1,0,0,0,1,0,2,2,2,3,1,0,0,0,0,1,0,0,1,0,1,0,0,0,1,0,2,2,2] [0,1,3] hA2 D1 E1 (by kernel_rfl) (by decide) rfl (trivial)
theorem c_nl (w : World) (fp : Addr) :
    LCon pw w (G w.params) 8 (.call (.ref 59) ⟨[.ref fp], []⟩) [] (fun o : NOut => ret (.ref o.lx)) (fun o => [(o.lx, ⟨.ref 59, some o.ld, .plain, #[]⟩), (o.ld, nlD w.params fp o), (o.pb, lst [] 0)]) (fun _ => True) := by
  refine lcon_in rfl fun A hA hA1 h sz tk g d os D E0 => ?_
  refine gt (Code.call (.builtin "type.__call__") { pos := [.ref 59, .ref fp] }) [0,0] [] sz tk hA hA1 D E0 (by kernel_rfl) (by kernel_rfl) (by kernel_rfl) fun h1 hA2 D1 E1 => ?_
  refine gt (Code.builtin "type.__call__" { pos := [.ref 59, .ref fp] }) [0] [] sz tk hA2 hA1 D1 E1 (by kernel_rfl) (by kernel_rfl) (by kernel_rfl) fun h2 hA3 D2 E2 => ?_
  refine gu (LCon.con (c_init w (sz + 1) sz fp)) [0,0,0,0,0,0,0,0,0,0,0,0,0,0,0,0,0,0,0,0,0,0,0,0,0,2,0,2,0,0,0,0] [(sz, dic [] 0), ((sz + 1), (⟨(.ref 59), some sz, .plain, #[]⟩ : Obj))] (sz + 2) tk [1,0] (hA3.le (by decide)) D2 E2 (by kernel_rfl) ⟨by decide, by kernel_rfl, rfl⟩ (fun _ => rfl) fun o h3 sz3 tk3 hX3 D3 E3 => ?_
  exact gf ({ lx := sz + 1, ld := sz, pb := o.pb, a1 := o.a1, a2 := o.a2, a3 := o.a3, a4 := o.a4, a5 := o.a5, tl := o.tl }) [] [1,0,2] hA3 D3 E3 (by kernel_rfl) (by decide) rfl (trivial)
end Mine
end
set_option maxHeartbeats 1000000
noncomputable section
namespace Mine
/-! ## get_token: its parts -/
noncomputable def forT : Stmt → Expr
  | .For t .. => t
  | _ => .Constant .none 0 ⟨0, 0, 0, 0⟩
noncomputable def forB : Stmt → List Stmt
  | .For _ _ b _ _ => b
  | _ => []
noncomputable def ifB : Stmt → List Stmt
  | .If _ b _ _ => b
  | _ => []
noncomputable def ifE : Stmt → List Stmt
  | .If _ _ e _ => e
  | _ => []
noncomputable def gtS : Stmt := inCls 2 2
noncomputable def gtQ : Str := S [95,110,101,116,114,99,108,101,120,46,103,101,116,95,116,111,107,101,110]
noncomputable def gtE (L : Addr) : Env := envD (scoOf gtS) gtQ L 49 [] (.ref 48)
noncomputable def gt0 : Stmt := (bodOf gtS).getD 3 nop
noncomputable def gt1 : Stmt := (ifB ((forB gt0).getD 1 nop)).getD 0 nop
noncomputable def gt2 : Stmt := (ifE ((forB gt0).getD 1 nop)).getD 2 nop
noncomputable def lp (s : Stmt) (L it : Addr) : Code := .forLoop (forT s) (.ref it) (forB s) [] (gtE L)
structure GX where
  (L it bm : Addr)
  (b1 b2 b3 b4 ts : Tok)
noncomputable def gtF (P : Params) (x : LX) (y : GX) (acc : Str) (ta : Tok) (ch : Str) (tc : Tok) : Obj :=
  fra [nt P k_self y.b1 (.ref x.lx), nt P k_token y.b2 (.str acc ta), nt P k_fiter y.b3 (.ref y.it), nt P k_ch y.b4 (.str ch tc)] 4
noncomputable def gFs (P : Params) (x : LX) (y : GX) (fo : Obj) (ln : Int) (tl : Tok) (cs : Chs) (n : Nat) : Facts := (y.L, fo) :: (y.it, itO y.bm y.ts) :: (y.bm, bmO x) :: x.fs P ln tl cs n
noncomputable def GX.at (y : GX) (b : Tok) : GX := ⟨y.L, y.it, y.bm, y.b1, y.b2, y.b3, b, y.ts⟩
structure EOut where
  (ta tc b tl : Tok)
  ch : Str
  n : Nat
noncomputable def eFs (P : Params) (x : LX) (y : GX) (tok : Str) (ln : Int) (o : EOut) : Facts := (y.L, gtF P x (y.at o.b) tok o.ta o.ch o.tc) :: (y.it, itX) :: (y.bm, bmO x) :: x.fs P ln o.tl [] o.n
structure LOut where
  (t tl : Tok)
  fo : Obj
  n : Nat
theorem notWs {c : Nat} (h : c ∉ [10, 9, 13, 32]) : (!(Builtin.Str.occurrences wsS (one c) 0 wsS.length 1).isEmpty) = false := by
  rw [show one c = ⟨#[c]⟩ from rfl, StrLaws.found_one]
  exact decide_eq_false h
theorem eqOne {c d : Nat} (h : c ≠ d) : ((one c).cps.toList == (S [d]).cps.toList) = false := by
  show ([c] == [d]) = false
  simp [h]
/-- a loop of get_token that hands back a token -/
noncomputable abbrev LP (w : World) (s : Stmt) (x : LX) (y : GX) (fo : Obj) (ln : Int) (tl : Tok) (cs : Chs) (n : Nat) (tok : Str) (ln' : Int) (rest : Chs) : Prop :=
  LCon pw w (G w.params) 12 (lp s y.L y.it) (gFs w.params x y fo ln tl cs n) (fun o : LOut => ret (.str tok o.t)) (fun o => gFs w.params x y o.fo ln' o.tl rest o.n) (fun _ => True)
/-- a loop of get_token, whatever its end -/
noncomputable abbrev LG {β : Type} (w : World) (s : Stmt) (x : LX) (y : GX) (fo : Obj) (ln : Int) (tl : Tok) (cs : Chs) (n : Nat) (res : β → Result) (fs2 : β → Facts) (X : β → Prop) : Prop :=
  LCon pw w (G w.params) 12 (lp s y.L y.it) (gFs w.params x y fo ln tl cs n) res fs2 X
theorem c_bare_pl {β : Type} {res : β → Result} {fs2 : β → Facts} {X : β → Prop} (w : World) (x : LX) (y : GX) (acc : Str) (ta : Tok) (ch : Str) (tc : Tok) (ln : Int) (tl : Tok) (c : Nat) (t : Tok) (cs : Chs) (n : Nat)
    (hl : (chs cs).length + 1 ≤ 1000000) (ha : acc.length + (one (c + 1)).length ≤ sizeLine) (hw : c + 1 ∉ [10, 9, 13, 32]) (hb : c + 1 ≠ 92) (hn : c + 1 ≠ 10)
    (IH : ∀ ta' : Tok, LG w gt2 x y (gtF w.params x y (acc ++ one (c + 1)) ta' (one (c + 1)) t) ln tl cs (n + 1) res fs2 X) : LG w gt2 x y (gtF w.params x y acc ta ch tc) ln tl ((c + 1, t) :: cs) n res fs2 X := by
  refine lcon_in rfl fun A hA hA1 h sz tk g d os D E0 => ?_
  refine gu (LCon.con (c_nx w x y.bm y.it y.ts ln tl c t cs n hl (eqOne hn))) [2] [(y.1, gtF w.params x y acc ta ch tc), (y.2, itO y.bm y.ts), (y.3, bmO x), (x.1, ({ cls := .ref 59, dict := some x.ld })), (x.2, lexD w.params x ln tl), (x.3, ({ cls := .type "function", dict := some x.fd, data := Data.func x.dt })), (x.4, dic [nt w.params k_read x.a6 (.ref x.rd)] 1), (x.5, rdO x.cl x.ct x.cd), (x.8, cdO x.v0 rdQ x.a7 x.vs), (x.6, cel (.ref x.lf)), (x.9, lst (chs ((c + 1, t) :: cs)) n), (x.10, lst [] 0)] sz tk [1,2,3,4,5,6,7,8,9,10,11] (hA.le (by decide)) D E0 (by kernel_rfl) ⟨by decide, by kernel_rfl, rfl⟩ (fun _ => rfl) fun r h1 sz1 tk1 hX D1 E1 => ?_
  refine gu (c_in wsS (one (c + 1)) x.14 t false (notWs hw)) [1,1,1,1,4,0,0,0,0,4,0,0,0,4,4,0,5] [(y.1, fra [nt w.params k_self y.4 (.ref x.1), nt w.params k_token y.5 (.str (acc) ta), nt w.params k_fiter y.6 (.ref y.2), nt w.params k_ch y.7 (.str (one (c + 1)) t)] 4), (y.2, itO y.bm y.ts), (y.3, bmO x), (x.1, ({ cls := .ref 59, dict := some x.ld })), (x.2, lexD w.params x ln tl), (x.3, ({ cls := .type "function", dict := some x.fd, data := Data.func x.dt })), (x.4, dic [nt w.params k_read x.a6 (.ref x.rd)] 1), (x.5, rdO x.cl x.ct x.cd), (x.8, cdO x.v0 rdQ x.a7 x.vs), (x.6, cel (.ref x.lf)), (x.9, lst (chs cs) (n + 1)), (x.10, lst [] 0)] sz1 (tk1 + 2) [] (hA.le (by decide)) D1 E1 (by kernel_rfl) ⟨by decide, by kernel_rfl, rfl⟩ (fun _ => rfl) fun r h2 sz2 tk2 hX D2 E2 => ?_
  refine gu (c_eq (one (c + 1)) (S [92]) t tk2 false (eqOne hb)) [1] [(y.1, fra [nt w.params k_self y.b1 (.ref x.lx), nt w.params k_token y.b2 (.str acc ta), nt w.params k_fiter y.b3 (.ref y.it), nt w.params k_ch y.b4 (.str (one (c + 1)) t)] 4), (y.2, itO y.bm y.ts), (y.3, bmO x), (x.1, ({ cls := .ref 59, dict := some x.ld })), (x.2, lexD w.params x ln tl), (x.3, ({ cls := .type "function", dict := some x.fd, data := Data.func x.dt })), (x.4, dic [nt w.params k_read x.a6 (.ref x.rd)] 1), (x.5, rdO x.cl x.ct x.cd), (x.8, cdO x.v0 rdQ x.a7 x.vs), (x.6, cel (.ref x.lf)), (x.9, lst (chs cs) (n + 1)), (x.10, lst [] 0)] sz2 (tk2 + 1) [] (hA.le (by decide)) D2 E2 (by generalize w = w'; revert w'; exact tw_fa (by kernel_rfl) (by kernel_rfl)) ⟨by decide, by kernel_rfl, rfl⟩ (fun _ => rfl) fun r h3 sz3 tk3 hX D3 E3 => ?_
  refine gu (c_add acc (one (c + 1)) ta t ha) [1,1] [(y.1, fra [nt w.params k_self y.b1 (.ref x.lx), nt w.params k_token y.b2 (.str acc ta), nt w.params k_fiter y.b3 (.ref y.it), nt w.params k_ch y.b4 (.str (one (c + 1)) t)] 4), (y.2, itO y.bm y.ts), (y.3, bmO x), (x.1, ({ cls := .ref 59, dict := some x.ld })), (x.2, lexD w.params x ln tl), (x.3, ({ cls := .type "function", dict := some x.fd, data := Data.func x.dt })), (x.4, dic [nt w.params k_read x.a6 (.ref x.rd)] 1), (x.5, rdO x.cl x.ct x.cd), (x.8, cdO x.v0 rdQ x.a7 x.vs), (x.6, cel (.ref x.lf)), (x.9, lst (chs cs) (n + 1)), (x.10, lst [] 0)] sz3 tk3 [] (hA.le (by decide)) D3 E3 (by generalize w = w'; revert w'; exact tw_fa (by kernel_rfl) (by kernel_rfl)) ⟨by decide, by kernel_rfl, rfl⟩ (fun _ => rfl) fun r h4 sz4 tk4 hX D4 E4 => ?_
  exact ga (IH r) [1,1] [0,1,2,3,4,5,6,7,8,9,10,11] hA (hA1.le (by decide)) D4 E4 (by generalize w = w'; revert w'; exact tw_fa (by kernel_rfl) (by kernel_rfl)) (by decide) rfl
theorem c_bare_sp (w : World) (x : LX) (y : GX) (acc : Str) (ta : Tok) (ch : Str) (tc : Tok) (ln : Int) (tl : Tok) (t : Tok) (cs : Chs) (n : Nat) (hl : (chs cs).length + 1 ≤ 1000000) : LP w gt2 x y (gtF w.params x y acc ta ch tc) ln tl ((32, t) :: cs) n acc ln cs := by
  refine lcon_in rfl fun A hA hA1 h sz tk g d os D E0 => ?_
  refine gu (LCon.con (c_nx w x y.bm y.it y.ts ln tl 31 t cs n hl (eqOne (of_decide_eq_true (id (Eq.refl true)))))) [2] [(y.1, gtF w.params x y acc ta ch tc), (y.2, itO y.bm y.ts), (y.3, bmO x), (x.1, ({ cls := .ref 59, dict := some x.ld })), (x.2, lexD w.params x ln tl), (x.3, ({ cls := .type "function", dict := some x.fd, data := Data.func x.dt })), (x.4, dic [nt w.params k_read x.a6 (.ref x.rd)] 1), (x.5, rdO x.cl x.ct x.cd), (x.8, cdO x.v0 rdQ x.a7 x.vs), (x.6, cel (.ref x.lf)), (x.9, lst (chs ((32, t) :: cs)) n), (x.10, lst [] 0)] sz tk [1,2,3,4,5,6,7,8,9,10,11] (hA.le (by decide)) D E0 (by kernel_rfl) ⟨by decide, by kernel_rfl, rfl⟩ (fun _ => rfl) fun r h1 sz1 tk1 hX D1 E1 => ?_
  exact gf ({ t := ta, tl := tl, fo := gtF w.params x y acc ta (one 32) t, n := n + 1 }) [1,1,1,1,4,0,0,0,0,4,0,0,0,4,4,0,5,0,0,1] [0,1,2,3,4,5,6,7,8,9,10,11] hA D1 E1 (by kernel_rfl) (by decide) rfl (trivial)
theorem c_bare_nl (w : World) (x : LX) (y : GX) (acc : Str) (ta : Tok) (ch : Str) (tc : Tok) (ln : Int) (tl : Tok) (t : Tok) (cs : Chs) (n : Nat) (hl : (chs cs).length + 1 ≤ 1000000) : LP w gt2 x y (gtF w.params x y acc ta ch tc) ln tl ((10, t) :: cs) n acc (ln + 1) cs := by
  refine lcon_in rfl fun A hA hA1 h sz tk g d os D E0 => ?_
  refine gu (LCon.con (c_nxN w x y.bm y.it y.ts ln tl t cs n hl)) [2] [(y.1, gtF w.params x y acc ta ch tc), (y.2, itO y.bm y.ts), (y.3, bmO x), (x.1, ({ cls := .ref 59, dict := some x.ld })), (x.2, lexD w.params x ln tl), (x.3, ({ cls := .type "function", dict := some x.fd, data := Data.func x.dt })), (x.4, dic [nt w.params k_read x.a6 (.ref x.rd)] 1), (x.5, rdO x.cl x.ct x.cd), (x.8, cdO x.v0 rdQ x.a7 x.vs), (x.6, cel (.ref x.lf)), (x.9, lst (chs ((10, t) :: cs)) n), (x.10, lst [] 0)] sz tk [1,2,3,4,5,6,7,8,9,10,11] (hA.le (by decide)) D E0 (by kernel_rfl) ⟨by decide, by kernel_rfl, rfl⟩ (fun _ => rfl) fun r h1 sz1 tk1 hX D1 E1 => ?_
  exact gf ({ t := ta, tl := r, fo := gtF w.params x y acc ta (one 10) t, n := n + 1 }) [1,1,1,1,4,0,0,0,0,4,0,0,0,4,4,0,5,0,0,1] [0,1,2,3,4,5,6,7,8,9,10,11] hA D1 E1 (by kernel_rfl) (by decide) rfl (trivial)
theorem c_bare_esc {β : Type} {res : β → Result} {fs2 : β → Facts} {X : β → Prop} (w : World) (x : LX) (y : GX) (acc : Str) (ta : Tok) (ch : Str) (tc : Tok) (ln : Int) (tl : Tok) (c : Nat) (t t' : Tok) (cs : Chs) (n : Nat)
    (hl : (chs ((c + 1, t') :: cs)).length + 1 ≤ 1000000) (hl' : (chs cs).length + 1 ≤ 1000000) (ha : acc.length + (one (c + 1)).length ≤ sizeLine) (hn : c + 1 ≠ 10)
    (IH : ∀ ta' : Tok, LG w gt2 x y (gtF w.params x y (acc ++ one (c + 1)) ta' (one (c + 1)) t') ln tl cs (n + 2) res fs2 X) : LG w gt2 x y (gtF w.params x y acc ta ch tc) ln tl ((92, t) :: (c + 1, t') :: cs) n res fs2 X := by
  refine lcon_in rfl fun A hA hA1 h sz tk g d os D E0 => ?_
  refine gu (LCon.con (c_nx w x y.bm y.it y.ts ln tl 91 t ((c + 1, t') :: cs) n hl (eqOne (of_decide_eq_true (id (Eq.refl true)))))) [2] [(y.1, gtF w.params x y acc ta ch tc), (y.2, itO y.bm y.ts), (y.3, bmO x), (x.1, ({ cls := .ref 59, dict := some x.ld })), (x.2, lexD w.params x ln tl), (x.3, ({ cls := .type "function", dict := some x.fd, data := Data.func x.dt })), (x.4, dic [nt w.params k_read x.a6 (.ref x.rd)] 1), (x.5, rdO x.cl x.ct x.cd), (x.8, cdO x.v0 rdQ x.a7 x.vs), (x.6, cel (.ref x.lf)), (x.9, lst (chs ((92, t) :: (c + 1, t') :: cs)) n), (x.10, lst [] 0)] sz tk [1,2,3,4,5,6,7,8,9,10,11] (hA.le (by decide)) D E0 (by kernel_rfl) ⟨by decide, by kernel_rfl, rfl⟩ (fun _ => rfl) fun r h1 sz1 tk1 hX D1 E1 => ?_
  refine gu (LCon.con (c_rc w x ln tl (c + 1) t' cs (n + 1) hl' (eqOne hn))) [1,1,1,1,4,0,0,0,0,4,0,0,0,4,4,0,5,0,0,1,0,0,1,4,0,0,0,4,0,0,0,4,0,0,0,0,4,5,0] [(y.1, fra [nt w.params k_self y.4 (.ref x.1), nt w.params k_token y.5 (.str (acc) ta), nt w.params k_fiter y.6 (.ref y.2), nt w.params k_ch y.7 (.str (S [92]) t)] 4), (y.2, itO y.bm y.ts), (y.3, bmO x), (x.1, ({ cls := .ref 59, dict := some x.ld })), (x.2, lexD w.params x ln tl), (x.3, ({ cls := .type "function", dict := some x.fd, data := Data.func x.dt })), (x.4, dic [nt w.params k_read x.a6 (.ref x.rd)] 1), (x.5, rdO x.cl x.ct x.cd), (x.8, cdO x.v0 rdQ x.a7 x.vs), (x.6, cel (.ref x.lf)), (x.9, lst (chs ((c + 1, t') :: cs)) (n + 1)), (x.10, lst [] 0)] sz1 (tk1 + 3) [3,4,5,6,7,8,9,10,11] (hA.le (by decide)) D1 E1 (by generalize w = w'; revert w'; exact tw_fa (by kernel_rfl) (by kernel_rfl)) ⟨by decide, by kernel_rfl, rfl⟩ (fun _ => rfl) fun r h2 sz2 tk2 hX D2 E2 => ?_
  refine gu (c_add acc (one (c + 1)) ta t' ha) [1,1,1,1] [(y.1, fra [nt w.params k_self y.4 (.ref x.1), nt w.params k_token y.5 (.str (acc) ta), nt w.params k_fiter y.6 (.ref y.2), nt w.params k_ch y.7 (.str (one (c + 1)) t')] 4), (y.2, itO y.bm y.ts), (y.3, bmO x), (x.1, ({ cls := .ref 59, dict := some x.ld })), (x.2, lexD w.params x ln tl), (x.3, ({ cls := .type "function", dict := some x.fd, data := Data.func x.dt })), (x.4, dic [nt w.params k_read x.a6 (.ref x.rd)] 1), (x.5, rdO x.cl x.ct x.cd), (x.8, cdO x.v0 rdQ x.a7 x.vs), (x.6, cel (.ref x.lf)), (x.9, lst (chs cs) (n + 1 + 1)), (x.10, lst [] 0)] sz2 (tk2 + 1) [] (hA.le (by decide)) D2 E2 (by generalize w = w'; revert w'; exact tw_fa (by kernel_rfl) (by kernel_rfl)) ⟨by decide, by kernel_rfl, rfl⟩ (fun _ => rfl) fun r h4 sz4 tk4 hX D4 E4 => ?_
  exact ga (IH r) [1,1] [0,1,2,3,4,5,6,7,8,9,10,11] hA (hA1.le (by decide)) D4 E4 (by generalize w = w'; revert w'; exact tw_fa (by kernel_rfl) (by kernel_rfl)) (by decide) rfl
theorem c_bare_escN {β : Type} {res : β → Result} {fs2 : β → Facts} {X : β → Prop} (w : World) (x : LX) (y : GX) (acc : Str) (ta : Tok) (ch : Str) (tc : Tok) (ln : Int) (tl : Tok) (t t' : Tok) (cs : Chs) (n : Nat)
    (hl : (chs ((10, t') :: cs)).length + 1 ≤ 1000000) (hl' : (chs cs).length + 1 ≤ 1000000) (ha : acc.length + (one 10).length ≤ sizeLine)
    (IH : ∀ ta' tl' : Tok, LG w gt2 x y (gtF w.params x y (acc ++ one 10) ta' (one 10) t') (ln + 1) tl' cs (n + 2) res fs2 X) : LG w gt2 x y (gtF w.params x y acc ta ch tc) ln tl ((92, t) :: (10, t') :: cs) n res fs2 X := by
  refine lcon_in rfl fun A hA hA1 h sz tk g d os D E0 => ?_
  refine gu (LCon.con (c_nx w x y.bm y.it y.ts ln tl 91 t ((10, t') :: cs) n hl (eqOne (of_decide_eq_true (id (Eq.refl true)))))) [2] [(y.1, gtF w.params x y acc ta ch tc), (y.2, itO y.bm y.ts), (y.3, bmO x), (x.1, ({ cls := .ref 59, dict := some x.ld })), (x.2, lexD w.params x ln tl), (x.3, ({ cls := .type "function", dict := some x.fd, data := Data.func x.dt })), (x.4, dic [nt w.params k_read x.a6 (.ref x.rd)] 1), (x.5, rdO x.cl x.ct x.cd), (x.8, cdO x.v0 rdQ x.a7 x.vs), (x.6, cel (.ref x.lf)), (x.9, lst (chs ((92, t) :: (10, t') :: cs)) n), (x.10, lst [] 0)] sz tk [1,2,3,4,5,6,7,8,9,10,11] (hA.le (by decide)) D E0 (by kernel_rfl) ⟨by decide, by kernel_rfl, rfl⟩ (fun _ => rfl) fun r h1 sz1 tk1 hX D1 E1 => ?_
  refine gu (LCon.con (c_rcN w x ln tl t' cs (n + 1) hl')) [1,1,1,1,4,0,0,0,0,4,0,0,0,4,4,0,5,0,0,1,0,0,1,4,0,0,0,4,0,0,0,4,0,0,0,0,4,5,0] [(y.1, fra [nt w.params k_self y.4 (.ref x.1), nt w.params k_token y.5 (.str (acc) ta), nt w.params k_fiter y.6 (.ref y.2), nt w.params k_ch y.7 (.str (S [92]) t)] 4), (y.2, itO y.bm y.ts), (y.3, bmO x), (x.1, ({ cls := .ref 59, dict := some x.ld })), (x.2, lexD w.params x ln tl), (x.3, ({ cls := .type "function", dict := some x.fd, data := Data.func x.dt })), (x.4, dic [nt w.params k_read x.a6 (.ref x.rd)] 1), (x.5, rdO x.cl x.ct x.cd), (x.8, cdO x.v0 rdQ x.a7 x.vs), (x.6, cel (.ref x.lf)), (x.9, lst (chs ((10, t') :: cs)) (n + 1)), (x.10, lst [] 0)] sz1 (tk1 + 3) [3,4,5,6,7,8,9,10,11] (hA.le (by decide)) D1 E1 (by generalize w = w'; revert w'; exact tw_fa (by kernel_rfl) (by kernel_rfl)) ⟨by decide, by kernel_rfl, rfl⟩ (fun _ => rfl) fun tl' h2 sz2 tk2 hX D2 E2 => ?_
  refine gu (c_add acc (one 10) ta t' ha) [1,1,1,1] [(y.1, fra [nt w.params k_self y.4 (.ref x.1), nt w.params k_token y.5 (.str (acc) ta), nt w.params k_fiter y.6 (.ref y.2), nt w.params k_ch y.7 (.str (S [10]) t')] 4), (y.2, itO y.bm y.ts), (y.3, bmO x), (x.1, ({ cls := .ref 59, dict := some x.ld })), (x.2, lexD w.params x (ln + 1) tl'), (x.3, ({ cls := .type "function", dict := some x.fd, data := Data.func x.dt })), (x.4, dic [nt w.params k_read x.a6 (.ref x.rd)] 1), (x.5, rdO x.cl x.ct x.cd), (x.8, cdO x.v0 rdQ x.a7 x.vs), (x.6, cel (.ref x.lf)), (x.9, lst (chs cs) (n + 1 + 1)), (x.10, lst [] 0)] sz2 (tk2 + 1) [] (hA.le (by decide)) D2 E2 (by generalize w = w'; revert w'; exact tw_fa (by kernel_rfl) (by kernel_rfl)) ⟨by decide, by kernel_rfl, rfl⟩ (fun _ => rfl) fun r h4 sz4 tk4 hX D4 E4 => ?_
  exact ga (IH r tl') [1,1] [0,1,2,3,4,5,6,7,8,9,10,11] hA (hA1.le (by decide)) D4 E4 (by generalize w = w'; revert w'; exact tw_fa (by kernel_rfl) (by kernel_rfl)) (by decide) rfl
theorem c_bare_eof (w : World) (x : LX) (y : GX) (acc : Str) (ta : Tok) (ch : Str) (tc : Tok) (ln : Int) (tl : Tok) (n : Nat) :
    LG w gt2 x y (gtF w.params x y acc ta ch tc) ln tl [] n (fun _ : EOut => .ok .next) (eFs w.params x y acc ln) (fun _ => True) := by
  refine lcon_in rfl fun A hA hA1 h sz tk g d os D E0 => ?_
  refine gu (LCon.con (c_nxE w x y.bm y.it y.ts ln tl n)) [2] [(y.1, gtF w.params x y acc ta ch tc), (y.2, itO y.bm y.ts), (y.3, bmO x), (x.1, ({ cls := .ref 59, dict := some x.ld })), (x.2, lexD w.params x ln tl), (x.3, ({ cls := .type "function", dict := some x.fd, data := Data.func x.dt })), (x.4, dic [nt w.params k_read x.a6 (.ref x.rd)] 1), (x.5, rdO x.cl x.ct x.cd), (x.8, cdO x.v0 rdQ x.a7 x.vs), (x.6, cel (.ref x.lf)), (x.9, lst (chs []) n), (x.10, lst [] 0)] sz tk [1,2,3,4,5,6,7,8,9,10,11] (hA.le (by decide)) D E0 (by kernel_rfl) ⟨by decide, by kernel_rfl, rfl⟩ (fun _ => rfl) fun r h1 sz1 tk1 hX D1 E1 => ?_
  refine gt (Code.block [] (gtE y.L)) [14] [(y.1, gtF w.params x y acc ta ch tc), (y.2, itX), (y.3, bmO x), (x.1, ({ cls := .ref 59, dict := some x.ld })), (x.2, lexD w.params x ln tl), (x.3, ({ cls := .type "function", dict := some x.fd, data := Data.func x.dt })), (x.4, dic [nt w.params k_read x.a6 (.ref x.rd)] 1), (x.5, rdO x.cl x.ct x.cd), (x.8, cdO x.v0 rdQ x.a7 x.vs), (x.6, cel (.ref x.lf)), (x.9, lst (chs []) n), (x.10, lst [] 0), (r.1, tup []), (r.2, excO r.fst)] sz1 tk1 hA hA1 D1 E1 (by kernel_rfl) (by kernel_rfl) (by kernel_rfl) fun h2 hA2 D2 E2 => ?_
  exact gf ({ ta := ta, tc := tc, b := y.b4, tl := tl, ch := ch, n := n }) [] [0,1,2,3,4,5,6,7,8,9,10,11] hA2 D2 E2 (by kernel_rfl) (by decide) rfl (trivial)
/-! ## the loop between quotation marks -/
theorem c_qu_end (w : World) (x : LX) (y : GX) (acc : Str) (ta : Tok) (ch : Str) (tc : Tok) (ln : Int) (tl : Tok) (t : Tok) (cs : Chs) (n : Nat) (hl : (chs cs).length + 1 ≤ 1000000) : LP w gt1 x y (gtF w.params x y acc ta ch tc) ln tl ((34, t) :: cs) n acc ln cs := by
  refine lcon_in rfl fun A hA hA1 h sz tk g d os D E0 => ?_
  refine gu (LCon.con (c_nx w x y.bm y.it y.ts ln tl 33 t cs n hl (eqOne (of_decide_eq_true (id (Eq.refl true)))))) [2] [(y.1, gtF w.params x y acc ta ch tc), (y.2, itO y.bm y.ts), (y.3, bmO x), (x.1, ({ cls := .ref 59, dict := some x.ld })), (x.2, lexD w.params x ln tl), (x.3, ({ cls := .type "function", dict := some x.fd, data := Data.func x.dt })), (x.4, dic [nt w.params k_read x.a6 (.ref x.rd)] 1), (x.5, rdO x.cl x.ct x.cd), (x.8, cdO x.v0 rdQ x.a7 x.vs), (x.6, cel (.ref x.lf)), (x.9, lst (chs ((34, t) :: cs)) n), (x.10, lst [] 0)] sz tk [1,2,3,4,5,6,7,8,9,10,11] (hA.le (by decide)) D E0 (by kernel_rfl) ⟨by decide, by kernel_rfl, rfl⟩ (fun _ => rfl) fun r h1 sz1 tk1 hX D1 E1 => ?_
  exact gf ({ t := ta, tl := tl, fo := gtF w.params x y acc ta (one 34) t, n := n + 1 }) [1,1,1,0,0,1] [0,1,2,3,4,5,6,7,8,9,10,11] hA D1 E1 (by generalize w = w'; revert w'; exact tw_fa (by kernel_rfl) (by kernel_rfl)) (by decide) rfl (trivial)
theorem c_qu_pl {β : Type} {res : β → Result} {fs2 : β → Facts} {X : β → Prop} (w : World) (x : LX) (y : GX) (acc : Str) (ta : Tok) (ch : Str) (tc : Tok) (ln : Int) (tl : Tok) (c : Nat) (t : Tok) (cs : Chs) (n : Nat)
    (hl : (chs cs).length + 1 ≤ 1000000) (ha : acc.length + (one (c + 1)).length ≤ sizeLine) (hw : c + 1 ≠ 34) (hb : c + 1 ≠ 92) (hn : c + 1 ≠ 10)
    (IH : ∀ ta' : Tok, LG w gt1 x y (gtF w.params x y (acc ++ one (c + 1)) ta' (one (c + 1)) t) ln tl cs (n + 1) res fs2 X) : LG w gt1 x y (gtF w.params x y acc ta ch tc) ln tl ((c + 1, t) :: cs) n res fs2 X := by
  refine lcon_in rfl fun A hA hA1 h sz tk g d os D E0 => ?_
  refine gu (LCon.con (c_nx w x y.bm y.it y.ts ln tl c t cs n hl (eqOne hn))) [2] [(y.1, gtF w.params x y acc ta ch tc), (y.2, itO y.bm y.ts), (y.3, bmO x), (x.1, ({ cls := .ref 59, dict := some x.ld })), (x.2, lexD w.params x ln tl), (x.3, ({ cls := .type "function", dict := some x.fd, data := Data.func x.dt })), (x.4, dic [nt w.params k_read x.a6 (.ref x.rd)] 1), (x.5, rdO x.cl x.ct x.cd), (x.8, cdO x.v0 rdQ x.a7 x.vs), (x.6, cel (.ref x.lf)), (x.9, lst (chs ((c + 1, t) :: cs)) n), (x.10, lst [] 0)] sz tk [1,2,3,4,5,6,7,8,9,10,11] (hA.le (by decide)) D E0 (by kernel_rfl) ⟨by decide, by kernel_rfl, rfl⟩ (fun _ => rfl) fun r h1 sz1 tk1 hX D1 E1 => ?_
  refine gu (c_eq (one (c + 1)) (S [34]) t (tk1 + 1) false (eqOne hw)) [1,1,1] [(y.1, fra [nt w.params k_self y.4 (.ref x.1), nt w.params k_token y.5 (.str (acc) ta), nt w.params k_fiter y.6 (.ref y.2), nt w.params k_ch y.7 (.str (one (c + 1)) t)] 4), (y.2, itO y.bm y.ts), (y.3, bmO x), (x.1, ({ cls := .ref 59, dict := some x.ld })), (x.2, lexD w.params x ln tl), (x.3, ({ cls := .type "function", dict := some x.fd, data := Data.func x.dt })), (x.4, dic [nt w.params k_read x.a6 (.ref x.rd)] 1), (x.5, rdO x.cl x.ct x.cd), (x.8, cdO x.v0 rdQ x.a7 x.vs), (x.6, cel (.ref x.lf)), (x.9, lst (chs cs) (n + 1)), (x.10, lst [] 0)] sz1 (tk1 + 2) [] (hA.le (by decide)) D1 E1 (by generalize w = w'; revert w'; exact tw_fa (by kernel_rfl) (by kernel_rfl)) ⟨by decide, by kernel_rfl, rfl⟩ (fun _ => rfl) fun r h2 sz2 tk2 hX D2 E2 => ?_
  refine gu (c_eq (one (c + 1)) (S [92]) t tk2 false (eqOne hb)) [1] [(y.1, fra [nt w.params k_self y.b1 (.ref x.lx), nt w.params k_token y.b2 (.str acc ta), nt w.params k_fiter y.b3 (.ref y.it), nt w.params k_ch y.b4 (.str (one (c + 1)) t)] 4), (y.2, itO y.bm y.ts), (y.3, bmO x), (x.1, ({ cls := .ref 59, dict := some x.ld })), (x.2, lexD w.params x ln tl), (x.3, ({ cls := .type "function", dict := some x.fd, data := Data.func x.dt })), (x.4, dic [nt w.params k_read x.a6 (.ref x.rd)] 1), (x.5, rdO x.cl x.ct x.cd), (x.8, cdO x.v0 rdQ x.a7 x.vs), (x.6, cel (.ref x.lf)), (x.9, lst (chs cs) (n + 1)), (x.10, lst [] 0)] sz2 (tk2 + 1) [] (hA.le (by decide)) D2 E2 (by generalize w = w'; revert w'; exact tw_fa (by kernel_rfl) (by kernel_rfl)) ⟨by decide, by kernel_rfl, rfl⟩ (fun _ => rfl) fun r h3 sz3 tk3 hX D3 E3 => ?_
  refine gu (c_add acc (one (c + 1)) ta t ha) [1,1] [(y.1, fra [nt w.params k_self y.b1 (.ref x.lx), nt w.params k_token y.b2 (.str acc ta), nt w.params k_fiter y.b3 (.ref y.it), nt w.params k_ch y.b4 (.str (one (c + 1)) t)] 4), (y.2, itO y.bm y.ts), (y.3, bmO x), (x.1, ({ cls := .ref 59, dict := some x.ld })), (x.2, lexD w.params x ln tl), (x.3, ({ cls := .type "function", dict := some x.fd, data := Data.func x.dt })), (x.4, dic [nt w.params k_read x.a6 (.ref x.rd)] 1), (x.5, rdO x.cl x.ct x.cd), (x.8, cdO x.v0 rdQ x.a7 x.vs), (x.6, cel (.ref x.lf)), (x.9, lst (chs cs) (n + 1)), (x.10, lst [] 0)] sz3 tk3 [] (hA.le (by decide)) D3 E3 (by generalize w = w'; revert w'; exact tw_fa (by kernel_rfl) (by kernel_rfl)) ⟨by decide, by kernel_rfl, rfl⟩ (fun _ => rfl) fun r h4 sz4 tk4 hX D4 E4 => ?_
  exact ga (IH r) [1,1] [0,1,2,3,4,5,6,7,8,9,10,11] hA (hA1.le (by decide)) D4 E4 (by generalize w = w'; revert w'; exact tw_fa (by kernel_rfl) (by kernel_rfl)) (by decide) rfl
theorem c_qu_nl {β : Type} {res : β → Result} {fs2 : β → Facts} {X : β → Prop} (w : World) (x : LX) (y : GX) (acc : Str) (ta : Tok) (ch : Str) (tc : Tok) (ln : Int) (tl : Tok) (t : Tok) (cs : Chs) (n : Nat)
    (hl : (chs cs).length + 1 ≤ 1000000) (ha : acc.length + (one 10).length ≤ sizeLine)
    (IH : ∀ ta' tl' : Tok, LG w gt1 x y (gtF w.params x y (acc ++ one 10) ta' (one 10) t) (ln + 1) tl' cs (n + 1) res fs2 X) : LG w gt1 x y (gtF w.params x y acc ta ch tc) ln tl ((10, t) :: cs) n res fs2 X := by
  refine lcon_in rfl fun A hA hA1 h sz tk g d os D E0 => ?_
  refine gu (LCon.con (c_nxN w x y.bm y.it y.ts ln tl t cs n hl)) [2] [(y.1, gtF w.params x y acc ta ch tc), (y.2, itO y.bm y.ts), (y.3, bmO x), (x.1, ({ cls := .ref 59, dict := some x.ld })), (x.2, lexD w.params x ln tl), (x.3, ({ cls := .type "function", dict := some x.fd, data := Data.func x.dt })), (x.4, dic [nt w.params k_read x.a6 (.ref x.rd)] 1), (x.5, rdO x.cl x.ct x.cd), (x.8, cdO x.v0 rdQ x.a7 x.vs), (x.6, cel (.ref x.lf)), (x.9, lst (chs ((10, t) :: cs)) n), (x.10, lst [] 0)] sz tk [1,2,3,4,5,6,7,8,9,10,11] (hA.le (by decide)) D E0 (by kernel_rfl) ⟨by decide, by kernel_rfl, rfl⟩ (fun _ => rfl) fun tl' h1 sz1 tk1 hX D1 E1 => ?_
  refine gu (c_add acc (one 10) ta t ha) [1,1,1,0,0,1,0,0,1,1] [(y.1, fra [nt w.params k_self y.4 (.ref x.1), nt w.params k_token y.5 (.str (acc) ta), nt w.params k_fiter y.6 (.ref y.2), nt w.params k_ch y.7 (.str (S [10]) t)] 4), (y.2, itO y.bm y.ts), (y.3, bmO x), (x.1, ({ cls := .ref 59, dict := some x.ld })), (x.2, lexD w.params x (ln + 1) tl'), (x.3, ({ cls := .type "function", dict := some x.fd, data := Data.func x.dt })), (x.4, dic [nt w.params k_read x.a6 (.ref x.rd)] 1), (x.5, rdO x.cl x.ct x.cd), (x.8, cdO x.v0 rdQ x.a7 x.vs), (x.6, cel (.ref x.lf)), (x.9, lst (chs cs) (n + 1)), (x.10, lst [] 0)] sz1 (tk1 + 3) [] (hA.le (by decide)) D1 E1 (by generalize w = w'; revert w'; exact tw_fa (by kernel_rfl) (by kernel_rfl)) ⟨by decide, by kernel_rfl, rfl⟩ (fun _ => rfl) fun r h4 sz4 tk4 hX D4 E4 => ?_
  exact ga (IH r tl') [1,1] [0,1,2,3,4,5,6,7,8,9,10,11] hA (hA1.le (by decide)) D4 E4 (by generalize w = w'; revert w'; exact tw_fa (by kernel_rfl) (by kernel_rfl)) (by decide) rfl
theorem c_qu_esc {β : Type} {res : β → Result} {fs2 : β → Facts} {X : β → Prop} (w : World) (x : LX) (y : GX) (acc : Str) (ta : Tok) (ch : Str) (tc : Tok) (ln : Int) (tl : Tok) (c : Nat) (t t' : Tok) (cs : Chs) (n : Nat)
    (hl : (chs ((c + 1, t') :: cs)).length + 1 ≤ 1000000) (hl' : (chs cs).length + 1 ≤ 1000000) (ha : acc.length + (one (c + 1)).length ≤ sizeLine) (hn : c + 1 ≠ 10)
    (IH : ∀ ta' : Tok, LG w gt1 x y (gtF w.params x y (acc ++ one (c + 1)) ta' (one (c + 1)) t') ln tl cs (n + 2) res fs2 X) : LG w gt1 x y (gtF w.params x y acc ta ch tc) ln tl ((92, t) :: (c + 1, t') :: cs) n res fs2 X := by
  refine lcon_in rfl fun A hA hA1 h sz tk g d os D E0 => ?_
  refine gu (LCon.con (c_nx w x y.bm y.it y.ts ln tl 91 t ((c + 1, t') :: cs) n hl (eqOne (of_decide_eq_true (id (Eq.refl true)))))) [2] [(y.1, gtF w.params x y acc ta ch tc), (y.2, itO y.bm y.ts), (y.3, bmO x), (x.1, ({ cls := .ref 59, dict := some x.ld })), (x.2, lexD w.params x ln tl), (x.3, ({ cls := .type "function", dict := some x.fd, data := Data.func x.dt })), (x.4, dic [nt w.params k_read x.a6 (.ref x.rd)] 1), (x.5, rdO x.cl x.ct x.cd), (x.8, cdO x.v0 rdQ x.a7 x.vs), (x.6, cel (.ref x.lf)), (x.9, lst (chs ((92, t) :: (c + 1, t') :: cs)) n), (x.10, lst [] 0)] sz tk [1,2,3,4,5,6,7,8,9,10,11] (hA.le (by decide)) D E0 (by kernel_rfl) ⟨by decide, by kernel_rfl, rfl⟩ (fun _ => rfl) fun r h1 sz1 tk1 hX D1 E1 => ?_
  refine gu (LCon.con (c_rc w x ln tl (c + 1) t' cs (n + 1) hl' (eqOne hn))) [1,1,1,0,0,1,0,0,1,4,0,0,0,4,0,0,0,4,0,0,0,0,4,5,0] [(y.1, fra [nt w.params k_self y.4 (.ref x.1), nt w.params k_token y.5 (.str (acc) ta), nt w.params k_fiter y.6 (.ref y.2), nt w.params k_ch y.7 (.str (S [92]) t)] 4), (y.2, itO y.bm y.ts), (y.3, bmO x), (x.1, ({ cls := .ref 59, dict := some x.ld })), (x.2, lexD w.params x ln tl), (x.3, ({ cls := .type "function", dict := some x.fd, data := Data.func x.dt })), (x.4, dic [nt w.params k_read x.a6 (.ref x.rd)] 1), (x.5, rdO x.cl x.ct x.cd), (x.8, cdO x.v0 rdQ x.a7 x.vs), (x.6, cel (.ref x.lf)), (x.9, lst (chs ((c + 1, t') :: cs)) (n + 1)), (x.10, lst [] 0)] sz1 (tk1 + 3) [3,4,5,6,7,8,9,10,11] (hA.le (by decide)) D1 E1 (by generalize w = w'; revert w'; exact tw_fa (by kernel_rfl) (by kernel_rfl)) ⟨by decide, by kernel_rfl, rfl⟩ (fun _ => rfl) fun r h2 sz2 tk2 hX D2 E2 => ?_
  refine gu (c_add acc (one (c + 1)) ta t' ha) [1,1,1,1] [(y.1, fra [nt w.params k_self y.4 (.ref x.1), nt w.params k_token y.5 (.str (acc) ta), nt w.params k_fiter y.6 (.ref y.2), nt w.params k_ch y.7 (.str (one (c + 1)) t')] 4), (y.2, itO y.bm y.ts), (y.3, bmO x), (x.1, ({ cls := .ref 59, dict := some x.ld })), (x.2, lexD w.params x ln tl), (x.3, ({ cls := .type "function", dict := some x.fd, data := Data.func x.dt })), (x.4, dic [nt w.params k_read x.a6 (.ref x.rd)] 1), (x.5, rdO x.cl x.ct x.cd), (x.8, cdO x.v0 rdQ x.a7 x.vs), (x.6, cel (.ref x.lf)), (x.9, lst (chs cs) (n + 1 + 1)), (x.10, lst [] 0)] sz2 (tk2 + 1) [] (hA.le (by decide)) D2 E2 (by generalize w = w'; revert w'; exact tw_fa (by kernel_rfl) (by kernel_rfl)) ⟨by decide, by kernel_rfl, rfl⟩ (fun _ => rfl) fun r h4 sz4 tk4 hX D4 E4 => ?_
  exact ga (IH r) [1,1] [0,1,2,3,4,5,6,7,8,9,10,11] hA (hA1.le (by decide)) D4 E4 (by generalize w = w'; revert w'; exact tw_fa (by kernel_rfl) (by kernel_rfl)) (by decide) rfl
end Mine
end
set_option maxHeartbeats 1000000
noncomputable section
namespace Mine
/-! ## the outer loop of get_token -/
noncomputable abbrev LG0 {β : Type} (w : World) (x : LX) (y : GX) (fo : Obj) (ln : Int) (tl : Tok) (cs : Chs) (n : Nat) (res : β → Result) (fs2 : β → Facts) (X : β → Prop) : Prop :=
  LCon pw w (G w.params) 15 (lp gt0 y.L y.it) (gFs w.params x y fo ln tl cs n) res fs2 X
noncomputable abbrev LP0 (w : World) (x : LX) (y : GX) (fo : Obj) (ln : Int) (tl : Tok) (cs : Chs) (n : Nat) (tok : Str) (ln' : Int) (rest : Chs) : Prop :=
  LCon pw w (G w.params) 15 (lp gt0 y.L y.it) (gFs w.params x y fo ln tl cs n) (fun o : LOut => ret (.str tok o.t)) (fun o => gFs w.params x y o.fo ln' o.tl rest o.n) (fun _ => True)
noncomputable def gtF3 (P : Params) (x : LX) (y : GX) (ta : Tok) : Obj :=
  fra [nt P k_self y.b1 (.ref x.lx), nt P k_token y.b2 (.str nilS ta), nt P k_fiter y.b3 (.ref y.it)] 3
theorem c_o3_nl {β : Type} {res : β → Result} {fs2 : β → Facts} {X : β → Prop} (w : World) (x : LX) (y : GX) (ta : Tok) (ln : Int) (tl : Tok) (t : Tok) (cs : Chs) (n : Nat) (hl : (chs cs).length + 1 ≤ 1000000)
    (IH : ∀ b tl' : Tok, LG0 w x (y.at b) (gtF w.params x (y.at b) nilS ta (one 10) t) (ln + 1) tl' cs (n + 1) res fs2 X) : LG0 w x y (gtF3 w.params x y ta) ln tl ((10, t) :: cs) n res fs2 X := by
  refine lcon_in rfl fun A hA hA1 h sz tk g d os D E0 => ?_
  refine gu (LCon.con (c_nxN w x y.bm y.it y.ts ln tl t cs n hl)) [2] [(y.1, gtF3 w.params x y ta), (y.2, itO y.bm y.ts), (y.3, bmO x), (x.1, ({ cls := .ref 59, dict := some x.ld })), (x.2, lexD w.params x ln tl), (x.3, ({ cls := .type "function", dict := some x.fd, data := Data.func x.dt })), (x.4, dic [nt w.params k_read x.a6 (.ref x.rd)] 1), (x.5, rdO x.cl x.ct x.cd), (x.8, cdO x.v0 rdQ x.a7 x.vs), (x.6, cel (.ref x.lf)), (x.9, lst (chs ((10, t) :: cs)) n), (x.10, lst [] 0)] sz tk [1,2,3,4,5,6,7,8,9,10,11] (hA.le (by decide)) D E0 (by kernel_rfl) ⟨by decide, by kernel_rfl, rfl⟩ (fun _ => rfl) fun tl' h1 sz1 tk1 hX D1 E1 => ?_
  exact ga (IH tk1 tl') [1,1,1,1,4,0,0,0,0,4,0,0,0,4,4,0,5,0,0] [0,1,2,3,4,5,6,7,8,9,10,11] hA (hA1.le (by decide)) D1 E1 (by kernel_rfl) (by decide) rfl
theorem c_o3_eof (w : World) (x : LX) (y : GX) (ta : Tok) (ln : Int) (tl : Tok) (n : Nat) :
    LG0 w x y (gtF3 w.params x y ta) ln tl [] n (fun _ : Unit => .ok .next) (fun _ => (y.L, gtF3 w.params x y ta) :: (y.it, itX) :: (y.bm, bmO x) :: x.fs w.params ln tl [] n) (fun _ => True) := by
  refine lcon_in rfl fun A hA hA1 h sz tk g d os D E0 => ?_
  refine gu (LCon.con (c_nxE w x y.bm y.it y.ts ln tl n)) [2] [(y.1, gtF3 w.params x y ta), (y.2, itO y.bm y.ts), (y.3, bmO x), (x.1, ({ cls := .ref 59, dict := some x.ld })), (x.2, lexD w.params x ln tl), (x.3, ({ cls := .type "function", dict := some x.fd, data := Data.func x.dt })), (x.4, dic [nt w.params k_read x.a6 (.ref x.rd)] 1), (x.5, rdO x.cl x.ct x.cd), (x.8, cdO x.v0 rdQ x.a7 x.vs), (x.6, cel (.ref x.lf)), (x.9, lst (chs []) n), (x.10, lst [] 0)] sz tk [1,2,3,4,5,6,7,8,9,10,11] (hA.le (by decide)) D E0 (by kernel_rfl) ⟨by decide, by kernel_rfl, rfl⟩ (fun _ => rfl) fun r h1 sz1 tk1 hX D1 E1 => ?_
  refine gt (Code.block [] (gtE y.L)) [14] [(y.1, gtF3 w.params x y ta), (y.2, itX), (y.3, bmO x), (x.1, ({ cls := .ref 59, dict := some x.ld })), (x.2, lexD w.params x ln tl), (x.3, ({ cls := .type "function", dict := some x.fd, data := Data.func x.dt })), (x.4, dic [nt w.params k_read x.a6 (.ref x.rd)] 1), (x.5, rdO x.cl x.ct x.cd), (x.8, cdO x.v0 rdQ x.a7 x.vs), (x.6, cel (.ref x.lf)), (x.9, lst (chs []) n), (x.10, lst [] 0), (r.1, tup []), (r.2, excO r.fst)] sz1 tk1 hA hA1 D1 E1 (by kernel_rfl) (by kernel_rfl) (by kernel_rfl) fun h2 hA2 D2 E2 => ?_
  exact gf (()) [] [0,1,2,3,4,5,6,7,8,9,10,11] hA2 D2 E2 (by kernel_rfl) (by decide) rfl (trivial)
theorem c_o3_q (w : World) (x : LX) (y : GX) (ta : Tok) (ln ln' : Int) (tl : Tok) (t : Tok) (cs rest : Chs) (n : Nat) (tok : Str) (hl : (chs cs).length + 1 ≤ 1000000)
    (Q : ∀ b : Tok, LP w gt1 x (y.at b) (gtF w.params x (y.at b) nilS ta (one 34) t) ln tl cs (n + 1) tok ln' rest) : LP0 w x y (gtF3 w.params x y ta) ln tl ((34, t) :: cs) n tok ln' rest := by
  refine lcon_in rfl fun A hA hA1 h sz tk g d os D E0 => ?_
  refine gu (LCon.con (c_nx w x y.bm y.it y.ts ln tl 33 t cs n hl (eqOne (of_decide_eq_true (id (Eq.refl true)))))) [2] [(y.1, gtF3 w.params x y ta), (y.2, itO y.bm y.ts), (y.3, bmO x), (x.1, ({ cls := .ref 59, dict := some x.ld })), (x.2, lexD w.params x ln tl), (x.3, ({ cls := .type "function", dict := some x.fd, data := Data.func x.dt })), (x.4, dic [nt w.params k_read x.a6 (.ref x.rd)] 1), (x.5, rdO x.cl x.ct x.cd), (x.8, cdO x.v0 rdQ x.a7 x.vs), (x.6, cel (.ref x.lf)), (x.9, lst (chs ((34, t) :: cs)) n), (x.10, lst [] 0)] sz tk [1,2,3,4,5,6,7,8,9,10,11] (hA.le (by decide)) D E0 (by kernel_rfl) ⟨by decide, by kernel_rfl, rfl⟩ (fun _ => rfl) fun r h1 sz1 tk1 hX D1 E1 => ?_
  refine gu (LCon.con (Q tk1)) [1,1,1,1,4,0,0,0,0,4,0,0,0,4,4,0,5,0,0,1,0,0,1,2,2,0,2,0,2] [(y.1, fra [nt w.params k_self y.4 (.ref x.1), nt w.params k_token y.5 (.str nilS ta), nt w.params k_fiter y.6 (.ref y.2), nt w.params k_ch tk1 (.str (S [34]) t)] 4), (y.2, itO y.bm y.ts), (y.3, bmO x), (x.1, ({ cls := .ref 59, dict := some x.ld })), (x.2, lexD w.params x ln tl), (x.3, ({ cls := .type "function", dict := some x.fd, data := Data.func x.dt })), (x.4, dic [nt w.params k_read x.a6 (.ref x.rd)] 1), (x.5, rdO x.cl x.ct x.cd), (x.8, cdO x.v0 rdQ x.a7 x.vs), (x.6, cel (.ref x.lf)), (x.9, lst (chs cs) (n + 1)), (x.10, lst [] 0)] sz1 (tk1 + 3) [0,1,2,3,4,5,6,7,8,9,10,11] (hA.le (by decide)) D1 E1 (by generalize w = w'; revert w'; exact tw_fa (by kernel_rfl) (by kernel_rfl)) ⟨by decide, by kernel_rfl, rfl⟩ (fun _ => rfl) fun o h2 sz2 tk2 hX D2 E2 => ?_
  exact gf (o) [] [0,1,2,3,4,5,6,7,8,9,10,11] hA D2 E2 (by generalize w = w'; revert w'; exact tw_fa (by kernel_rfl) (by kernel_rfl)) (by decide) rfl (trivial)
theorem c_o3_b (w : World) (x : LX) (y : GX) (ta : Tok) (ln ln' : Int) (tl : Tok) (c : Nat) (t : Tok) (cs rest : Chs) (n : Nat) (tok : Str) (hl : (chs cs).length + 1 ≤ 1000000) (hw : c + 1 ∉ [10, 9, 13, 32]) (hq : c + 1 ≠ 34) (hb : c + 1 ≠ 92) (hn : c + 1 ≠ 10)
    (B : ∀ b ta' : Tok, LP w gt2 x (y.at b) (gtF w.params x (y.at b) (nilS ++ one (c + 1)) ta' (one (c + 1)) t) ln tl cs (n + 1) tok ln' rest) : LP0 w x y (gtF3 w.params x y ta) ln tl ((c + 1, t) :: cs) n tok ln' rest := by
  refine lcon_in rfl fun A hA hA1 h sz tk g d os D E0 => ?_
  have hz : nilS.length + (one (c + 1)).length ≤ sizeLine := by rw [sizeLine_eq]; exact (by decide : 0 + 1 ≤ 16777216)
  refine gu (LCon.con (c_nx w x y.bm y.it y.ts ln tl c t cs n hl (eqOne hn))) [2] [(y.1, gtF3 w.params x y ta), (y.2, itO y.bm y.ts), (y.3, bmO x), (x.1, ({ cls := .ref 59, dict := some x.ld })), (x.2, lexD w.params x ln tl), (x.3, ({ cls := .type "function", dict := some x.fd, data := Data.func x.dt })), (x.4, dic [nt w.params k_read x.a6 (.ref x.rd)] 1), (x.5, rdO x.cl x.ct x.cd), (x.8, cdO x.v0 rdQ x.a7 x.vs), (x.6, cel (.ref x.lf)), (x.9, lst (chs ((c + 1, t) :: cs)) n), (x.10, lst [] 0)] sz tk [1,2,3,4,5,6,7,8,9,10,11] (hA.le (by decide)) D E0 (by kernel_rfl) ⟨by decide, by kernel_rfl, rfl⟩ (fun _ => rfl) fun r h1 sz1 tk1 hX D1 E1 => ?_
  refine gu (c_in wsS (one (c + 1)) x.14 t false (notWs hw)) [1,1,1,1,4,0,0,0,0,4,0,0,0,4,4,0,5] [(y.1, fra [nt w.params k_self y.4 (.ref x.1), nt w.params k_token y.5 (.str nilS ta), nt w.params k_fiter y.6 (.ref y.2), nt w.params k_ch tk1 (.str (one (c + 1)) t)] 4), (y.2, itO y.bm y.ts), (y.3, bmO x), (x.1, ({ cls := .ref 59, dict := some x.ld })), (x.2, lexD w.params x ln tl), (x.3, ({ cls := .type "function", dict := some x.fd, data := Data.func x.dt })), (x.4, dic [nt w.params k_read x.a6 (.ref x.rd)] 1), (x.5, rdO x.cl x.ct x.cd), (x.8, cdO x.v0 rdQ x.a7 x.vs), (x.6, cel (.ref x.lf)), (x.9, lst (chs cs) (n + 1)), (x.10, lst [] 0)] sz1 (tk1 + 2) [] (hA.le (by decide)) D1 E1 (by kernel_rfl) ⟨by decide, by kernel_rfl, rfl⟩ (fun _ => rfl) fun r h2 sz2 tk2 hX D2 E2 => ?_
  refine gu (c_eq (one (c + 1)) (S [34]) t tk2 false (eqOne hq)) [1] [(y.1, fra [nt w.params k_self y.b1 (.ref x.lx), nt w.params k_token y.b2 (.str nilS ta), nt w.params k_fiter y.b3 (.ref y.it), nt w.params k_ch tk1 (.str (one (c + 1)) t)] 4), (y.2, itO y.bm y.ts), (y.3, bmO x), (x.1, ({ cls := .ref 59, dict := some x.ld })), (x.2, lexD w.params x ln tl), (x.3, ({ cls := .type "function", dict := some x.fd, data := Data.func x.dt })), (x.4, dic [nt w.params k_read x.a6 (.ref x.rd)] 1), (x.5, rdO x.cl x.ct x.cd), (x.8, cdO x.v0 rdQ x.a7 x.vs), (x.6, cel (.ref x.lf)), (x.9, lst (chs cs) (n + 1)), (x.10, lst [] 0)] sz2 (tk2 + 1) [] (hA.le (by decide)) D2 E2 (by generalize w = w'; revert w'; exact tw_fa (by kernel_rfl) (by kernel_rfl)) ⟨by decide, by kernel_rfl, rfl⟩ (fun _ => rfl) fun r h3 sz3 tk3 hX D3 E3 => ?_
  refine gu (c_eq (one (c + 1)) (S [92]) t tk3 false (eqOne hb)) [1] [(y.1, fra [nt w.params k_self y.b1 (.ref x.lx), nt w.params k_token y.b2 (.str nilS ta), nt w.params k_fiter y.b3 (.ref y.it), nt w.params k_ch tk1 (.str (one (c + 1)) t)] 4), (y.2, itO y.bm y.ts), (y.3, bmO x), (x.1, ({ cls := .ref 59, dict := some x.ld })), (x.2, lexD w.params x ln tl), (x.3, ({ cls := .type "function", dict := some x.fd, data := Data.func x.dt })), (x.4, dic [nt w.params k_read x.a6 (.ref x.rd)] 1), (x.5, rdO x.cl x.ct x.cd), (x.8, cdO x.v0 rdQ x.a7 x.vs), (x.6, cel (.ref x.lf)), (x.9, lst (chs cs) (n + 1)), (x.10, lst [] 0)] sz3 (tk3 + 1) [] (hA.le (by decide)) D3 E3 (by generalize w = w'; revert w'; exact tw_fa (by kernel_rfl) (by kernel_rfl)) ⟨by decide, by kernel_rfl, rfl⟩ (fun _ => rfl) fun r h4 sz4 tk4 hX D4 E4 => ?_
  refine gu (c_add nilS (one (c + 1)) ta t hz) [1,1] [(y.1, fra [nt w.params k_self y.b1 (.ref x.lx), nt w.params k_token y.b2 (.str nilS ta), nt w.params k_fiter y.b3 (.ref y.it), nt w.params k_ch tk1 (.str (one (c + 1)) t)] 4), (y.2, itO y.bm y.ts), (y.3, bmO x), (x.1, ({ cls := .ref 59, dict := some x.ld })), (x.2, lexD w.params x ln tl), (x.3, ({ cls := .type "function", dict := some x.fd, data := Data.func x.dt })), (x.4, dic [nt w.params k_read x.a6 (.ref x.rd)] 1), (x.5, rdO x.cl x.ct x.cd), (x.8, cdO x.v0 rdQ x.a7 x.vs), (x.6, cel (.ref x.lf)), (x.9, lst (chs cs) (n + 1)), (x.10, lst [] 0)] sz4 tk4 [] (hA.le (by decide)) D4 E4 (by generalize w = w'; revert w'; exact tw_fa (by kernel_rfl) (by kernel_rfl)) ⟨by decide, by kernel_rfl, rfl⟩ (fun _ => rfl) fun ta' h5 sz5 tk5 hX D5 E5 => ?_
  refine gu (LCon.con (B tk1 ta')) [1,1,1,2,2,0,2,0,2] [(y.1, fra [nt w.params k_self y.4 (.ref x.1), nt w.params k_token y.5 (.str (nilS ++ one (c + 1)) ta'), nt w.params k_fiter y.6 (.ref y.2), nt w.params k_ch tk1 (.str (one (c + 1)) t)] 4), (y.2, itO y.bm y.ts), (y.3, bmO x), (x.1, ({ cls := .ref 59, dict := some x.ld })), (x.2, lexD w.params x ln tl), (x.3, ({ cls := .type "function", dict := some x.fd, data := Data.func x.dt })), (x.4, dic [nt w.params k_read x.a6 (.ref x.rd)] 1), (x.5, rdO x.cl x.ct x.cd), (x.8, cdO x.v0 rdQ x.a7 x.vs), (x.6, cel (.ref x.lf)), (x.9, lst (chs cs) (n + 1)), (x.10, lst [] 0)] sz5 (tk5 + 1) [0,1,2,3,4,5,6,7,8,9,10,11] (hA.le (by decide)) D5 E5 (by generalize w = w'; revert w'; exact tw_fa (by kernel_rfl) (by kernel_rfl)) ⟨by decide, by kernel_rfl, rfl⟩ (fun _ => rfl) fun o h6 sz6 tk6 hX D6 E6 => ?_
  exact gf (o) [] [0,1,2,3,4,5,6,7,8,9,10,11] hA D6 E6 (by generalize w = w'; revert w'; exact tw_fa (by kernel_rfl) (by kernel_rfl)) (by decide) rfl (trivial)
theorem c_o3_bE (w : World) (x : LX) (y : GX) (ta : Tok) (ln ln' : Int) (tl : Tok) (c : Nat) (t : Tok) (cs : Chs) (n : Nat) (tok : Str) (hl : (chs cs).length + 1 ≤ 1000000) (hw : c + 1 ∉ [10, 9, 13, 32]) (hq : c + 1 ≠ 34) (hb : c + 1 ≠ 92) (hn : c + 1 ≠ 10)
    (B : ∀ b ta' : Tok, LG w gt2 x (y.at b) (gtF w.params x (y.at b) (nilS ++ one (c + 1)) ta' (one (c + 1)) t) ln tl cs (n + 1) (fun _ : EOut => .ok .next) (eFs w.params x y tok ln') (fun _ => True)) :
    LG0 w x y (gtF3 w.params x y ta) ln tl ((c + 1, t) :: cs) n (fun _ : EOut => .ok .next) (eFs w.params x y tok ln') (fun _ => True) := by
  refine lcon_in rfl fun A hA hA1 h sz tk g d os D E0 => ?_
  have hz : nilS.length + (one (c + 1)).length ≤ sizeLine := by rw [sizeLine_eq]; exact (by decide : 0 + 1 ≤ 16777216)
  refine gu (LCon.con (c_nx w x y.bm y.it y.ts ln tl c t cs n hl (eqOne hn))) [2] [(y.1, gtF3 w.params x y ta), (y.2, itO y.bm y.ts), (y.3, bmO x), (x.1, ({ cls := .ref 59, dict := some x.ld })), (x.2, lexD w.params x ln tl), (x.3, ({ cls := .type "function", dict := some x.fd, data := Data.func x.dt })), (x.4, dic [nt w.params k_read x.a6 (.ref x.rd)] 1), (x.5, rdO x.cl x.ct x.cd), (x.8, cdO x.v0 rdQ x.a7 x.vs), (x.6, cel (.ref x.lf)), (x.9, lst (chs ((c + 1, t) :: cs)) n), (x.10, lst [] 0)] sz tk [1,2,3,4,5,6,7,8,9,10,11] (hA.le (by decide)) D E0 (by kernel_rfl) ⟨by decide, by kernel_rfl, rfl⟩ (fun _ => rfl) fun r h1 sz1 tk1 hX D1 E1 => ?_
  refine gu (c_in wsS (one (c + 1)) x.14 t false (notWs hw)) [1,1,1,1,4,0,0,0,0,4,0,0,0,4,4,0,5] [(y.1, fra [nt w.params k_self y.4 (.ref x.1), nt w.params k_token y.5 (.str nilS ta), nt w.params k_fiter y.6 (.ref y.2), nt w.params k_ch tk1 (.str (one (c + 1)) t)] 4), (y.2, itO y.bm y.ts), (y.3, bmO x), (x.1, ({ cls := .ref 59, dict := some x.ld })), (x.2, lexD w.params x ln tl), (x.3, ({ cls := .type "function", dict := some x.fd, data := Data.func x.dt })), (x.4, dic [nt w.params k_read x.a6 (.ref x.rd)] 1), (x.5, rdO x.cl x.ct x.cd), (x.8, cdO x.v0 rdQ x.a7 x.vs), (x.6, cel (.ref x.lf)), (x.9, lst (chs cs) (n + 1)), (x.10, lst [] 0)] sz1 (tk1 + 2) [] (hA.le (by decide)) D1 E1 (by kernel_rfl) ⟨by decide, by kernel_rfl, rfl⟩ (fun _ => rfl) fun r h2 sz2 tk2 hX D2 E2 => ?_
  refine gu (c_eq (one (c + 1)) (S [34]) t tk2 false (eqOne hq)) [1] [(y.1, fra [nt w.params k_self y.b1 (.ref x.lx), nt w.params k_token y.b2 (.str nilS ta), nt w.params k_fiter y.b3 (.ref y.it), nt w.params k_ch tk1 (.str (one (c + 1)) t)] 4), (y.2, itO y.bm y.ts), (y.3, bmO x), (x.1, ({ cls := .ref 59, dict := some x.ld })), (x.2, lexD w.params x ln tl), (x.3, ({ cls := .type "function", dict := some x.fd, data := Data.func x.dt })), (x.4, dic [nt w.params k_read x.a6 (.ref x.rd)] 1), (x.5, rdO x.cl x.ct x.cd), (x.8, cdO x.v0 rdQ x.a7 x.vs), (x.6, cel (.ref x.lf)), (x.9, lst (chs cs) (n + 1)), (x.10, lst [] 0)] sz2 (tk2 + 1) [] (hA.le (by decide)) D2 E2 (by generalize w = w'; revert w'; exact tw_fa (by kernel_rfl) (by kernel_rfl)) ⟨by decide, by kernel_rfl, rfl⟩ (fun _ => rfl) fun r h3 sz3 tk3 hX D3 E3 => ?_
  refine gu (c_eq (one (c + 1)) (S [92]) t tk3 false (eqOne hb)) [1] [(y.1, fra [nt w.params k_self y.b1 (.ref x.lx), nt w.params k_token y.b2 (.str nilS ta), nt w.params k_fiter y.b3 (.ref y.it), nt w.params k_ch tk1 (.str (one (c + 1)) t)] 4), (y.2, itO y.bm y.ts), (y.3, bmO x), (x.1, ({ cls := .ref 59, dict := some x.ld })), (x.2, lexD w.params x ln tl), (x.3, ({ cls := .type "function", dict := some x.fd, data := Data.func x.dt })), (x.4, dic [nt w.params k_read x.a6 (.ref x.rd)] 1), (x.5, rdO x.cl x.ct x.cd), (x.8, cdO x.v0 rdQ x.a7 x.vs), (x.6, cel (.ref x.lf)), (x.9, lst (chs cs) (n + 1)), (x.10, lst [] 0)] sz3 (tk3 + 1) [] (hA.le (by decide)) D3 E3 (by generalize w = w'; revert w'; exact tw_fa (by kernel_rfl) (by kernel_rfl)) ⟨by decide, by kernel_rfl, rfl⟩ (fun _ => rfl) fun r h4 sz4 tk4 hX D4 E4 => ?_
  refine gu (c_add nilS (one (c + 1)) ta t hz) [1,1] [(y.1, fra [nt w.params k_self y.b1 (.ref x.lx), nt w.params k_token y.b2 (.str nilS ta), nt w.params k_fiter y.b3 (.ref y.it), nt w.params k_ch tk1 (.str (one (c + 1)) t)] 4), (y.2, itO y.bm y.ts), (y.3, bmO x), (x.1, ({ cls := .ref 59, dict := some x.ld })), (x.2, lexD w.params x ln tl), (x.3, ({ cls := .type "function", dict := some x.fd, data := Data.func x.dt })), (x.4, dic [nt w.params k_read x.a6 (.ref x.rd)] 1), (x.5, rdO x.cl x.ct x.cd), (x.8, cdO x.v0 rdQ x.a7 x.vs), (x.6, cel (.ref x.lf)), (x.9, lst (chs cs) (n + 1)), (x.10, lst [] 0)] sz4 tk4 [] (hA.le (by decide)) D4 E4 (by generalize w = w'; revert w'; exact tw_fa (by kernel_rfl) (by kernel_rfl)) ⟨by decide, by kernel_rfl, rfl⟩ (fun _ => rfl) fun ta' h5 sz5 tk5 hX D5 E5 => ?_
  refine gu (LCon.con (B tk1 ta')) [1,1,1,2,2,0,2,0,2] [(y.1, fra [nt w.params k_self y.4 (.ref x.1), nt w.params k_token y.5 (.str (nilS ++ one (c + 1)) ta'), nt w.params k_fiter y.6 (.ref y.2), nt w.params k_ch tk1 (.str (one (c + 1)) t)] 4), (y.2, itO y.bm y.ts), (y.3, bmO x), (x.1, ({ cls := .ref 59, dict := some x.ld })), (x.2, lexD w.params x ln tl), (x.3, ({ cls := .type "function", dict := some x.fd, data := Data.func x.dt })), (x.4, dic [nt w.params k_read x.a6 (.ref x.rd)] 1), (x.5, rdO x.cl x.ct x.cd), (x.8, cdO x.v0 rdQ x.a7 x.vs), (x.6, cel (.ref x.lf)), (x.9, lst (chs cs) (n + 1)), (x.10, lst [] 0)] sz5 (tk5 + 1) [0,1,2,3,4,5,6,7,8,9,10,11] (hA.le (by decide)) D5 E5 (by generalize w = w'; revert w'; exact tw_fa (by kernel_rfl) (by kernel_rfl)) ⟨by decide, by kernel_rfl, rfl⟩ (fun _ => rfl) fun o h6 sz6 tk6 hX D6 E6 => ?_
  refine gt (lp gt0 y.L y.it) [] [(y.1, gtF w.params x (y.at o.b) tok o.ta o.ch o.tc), (y.2, itX), (y.3, bmO x), (x.1, ({ cls := .ref 59, dict := some x.ld })), (x.2, lexD w.params x ln' o.tl), (x.3, ({ cls := .type "function", dict := some x.fd, data := Data.func x.dt })), (x.4, dic [nt w.params k_read x.a6 (.ref x.rd)] 1), (x.5, rdO x.cl x.ct x.cd), (x.8, cdO x.v0 rdQ x.a7 x.vs), (x.6, cel (.ref x.lf)), (x.9, lst (chs []) o.n), (x.10, lst [] 0)] sz6 tk6 hA hA1 D6 E6 (by generalize w = w'; revert w'; exact tw_fa (by kernel_rfl) (by kernel_rfl)) (by kernel_rfl) (by kernel_rfl) fun h7 hA7 D7 E7 => ?_
  refine gu (LCon.con (c_nxX w y.it)) [2] [(y.1, gtF w.params x (y.at o.b) tok o.ta o.ch o.tc), (y.2, itX), (y.3, bmO x), (x.1, ({ cls := .ref 59, dict := some x.ld })), (x.2, lexD w.params x ln' o.tl), (x.3, ({ cls := .type "function", dict := some x.fd, data := Data.func x.dt })), (x.4, dic [nt w.params k_read x.a6 (.ref x.rd)] 1), (x.5, rdO x.cl x.ct x.cd), (x.8, cdO x.v0 rdQ x.a7 x.vs), (x.6, cel (.ref x.lf)), (x.9, lst (chs []) o.n), (x.10, lst [] 0)] sz6 tk6 [1] (hA7.le (by decide)) D7 E7 (by kernel_rfl) ⟨by decide, by kernel_rfl, rfl⟩ (fun _ => rfl) fun r h8 sz8 tk8 hX D8 E8 => ?_
  refine gt (Code.block [] (gtE y.L)) [14] [(y.1, gtF w.params x (y.at o.b) tok o.ta o.ch o.tc), (y.2, itX), (y.3, bmO x), (x.1, ({ cls := .ref 59, dict := some x.ld })), (x.2, lexD w.params x ln' o.tl), (x.3, ({ cls := .type "function", dict := some x.fd, data := Data.func x.dt })), (x.4, dic [nt w.params k_read x.a6 (.ref x.rd)] 1), (x.5, rdO x.cl x.ct x.cd), (x.8, cdO x.v0 rdQ x.a7 x.vs), (x.6, cel (.ref x.lf)), (x.9, lst (chs []) o.n), (x.10, lst [] 0), (r.1, tup []), (r.2, excO r.fst)] sz8 tk8 hA7 hA1 D8 E8 (by kernel_rfl) (by kernel_rfl) (by kernel_rfl) fun h9 hA9 D9 E9 => ?_
  exact gf (o) [] [0,1,2,3,4,5,6,7,8,9,10,11] hA9 D9 E9 (by kernel_rfl) (by decide) rfl (trivial)
theorem c_o4_b (w : World) (x : LX) (y : GX) (ta : Tok) (ch : Str) (tc : Tok) (ln ln' : Int) (tl : Tok) (c : Nat) (t : Tok) (cs rest : Chs) (n : Nat) (tok : Str) (hl : (chs cs).length + 1 ≤ 1000000) (hw : c + 1 ∉ [10, 9, 13, 32]) (hq : c + 1 ≠ 34) (hb : c + 1 ≠ 92) (hn : c + 1 ≠ 10)
    (B : ∀ ta' : Tok, LP w gt2 x y (gtF w.params x y (nilS ++ one (c + 1)) ta' (one (c + 1)) t) ln tl cs (n + 1) tok ln' rest) : LP0 w x y (gtF w.params x y nilS ta ch tc) ln tl ((c + 1, t) :: cs) n tok ln' rest := by
  refine lcon_in rfl fun A hA hA1 h sz tk g d os D E0 => ?_
  have hz : nilS.length + (one (c + 1)).length ≤ sizeLine := by rw [sizeLine_eq]; exact (by decide : 0 + 1 ≤ 16777216)
  refine gu (LCon.con (c_nx w x y.bm y.it y.ts ln tl c t cs n hl (eqOne hn))) [2] [(y.1, gtF w.params x y nilS ta ch tc), (y.2, itO y.bm y.ts), (y.3, bmO x), (x.1, ({ cls := .ref 59, dict := some x.ld })), (x.2, lexD w.params x ln tl), (x.3, ({ cls := .type "function", dict := some x.fd, data := Data.func x.dt })), (x.4, dic [nt w.params k_read x.a6 (.ref x.rd)] 1), (x.5, rdO x.cl x.ct x.cd), (x.8, cdO x.v0 rdQ x.a7 x.vs), (x.6, cel (.ref x.lf)), (x.9, lst (chs ((c + 1, t) :: cs)) n), (x.10, lst [] 0)] sz tk [1,2,3,4,5,6,7,8,9,10,11] (hA.le (by decide)) D E0 (by kernel_rfl) ⟨by decide, by kernel_rfl, rfl⟩ (fun _ => rfl) fun r h1 sz1 tk1 hX D1 E1 => ?_
  refine gu (c_in wsS (one (c + 1)) x.14 t false (notWs hw)) [1,1,1,1,4,0,0,0,0,4,0,0,0,4,4,0,5] [(y.1, fra [nt w.params k_self y.4 (.ref x.1), nt w.params k_token y.5 (.str nilS ta), nt w.params k_fiter y.6 (.ref y.2), nt w.params k_ch y.7 (.str (one (c + 1)) t)] 4), (y.2, itO y.bm y.ts), (y.3, bmO x), (x.1, ({ cls := .ref 59, dict := some x.ld })), (x.2, lexD w.params x ln tl), (x.3, ({ cls := .type "function", dict := some x.fd, data := Data.func x.dt })), (x.4, dic [nt w.params k_read x.a6 (.ref x.rd)] 1), (x.5, rdO x.cl x.ct x.cd), (x.8, cdO x.v0 rdQ x.a7 x.vs), (x.6, cel (.ref x.lf)), (x.9, lst (chs cs) (n + 1)), (x.10, lst [] 0)] sz1 (tk1 + 2) [] (hA.le (by decide)) D1 E1 (by kernel_rfl) ⟨by decide, by kernel_rfl, rfl⟩ (fun _ => rfl) fun r h2 sz2 tk2 hX D2 E2 => ?_
  refine gu (c_eq (one (c + 1)) (S [34]) t tk2 false (eqOne hq)) [1] [(y.1, fra [nt w.params k_self y.b1 (.ref x.lx), nt w.params k_token y.b2 (.str nilS ta), nt w.params k_fiter y.b3 (.ref y.it), nt w.params k_ch y.b4 (.str (one (c + 1)) t)] 4), (y.2, itO y.bm y.ts), (y.3, bmO x), (x.1, ({ cls := .ref 59, dict := some x.ld })), (x.2, lexD w.params x ln tl), (x.3, ({ cls := .type "function", dict := some x.fd, data := Data.func x.dt })), (x.4, dic [nt w.params k_read x.a6 (.ref x.rd)] 1), (x.5, rdO x.cl x.ct x.cd), (x.8, cdO x.v0 rdQ x.a7 x.vs), (x.6, cel (.ref x.lf)), (x.9, lst (chs cs) (n + 1)), (x.10, lst [] 0)] sz2 (tk2 + 1) [] (hA.le (by decide)) D2 E2 (by generalize w = w'; revert w'; exact tw_fa (by kernel_rfl) (by kernel_rfl)) ⟨by decide, by kernel_rfl, rfl⟩ (fun _ => rfl) fun r h3 sz3 tk3 hX D3 E3 => ?_
  refine gu (c_eq (one (c + 1)) (S [92]) t tk3 false (eqOne hb)) [1] [(y.1, fra [nt w.params k_self y.b1 (.ref x.lx), nt w.params k_token y.b2 (.str nilS ta), nt w.params k_fiter y.b3 (.ref y.it), nt w.params k_ch y.b4 (.str (one (c + 1)) t)] 4), (y.2, itO y.bm y.ts), (y.3, bmO x), (x.1, ({ cls := .ref 59, dict := some x.ld })), (x.2, lexD w.params x ln tl), (x.3, ({ cls := .type "function", dict := some x.fd, data := Data.func x.dt })), (x.4, dic [nt w.params k_read x.a6 (.ref x.rd)] 1), (x.5, rdO x.cl x.ct x.cd), (x.8, cdO x.v0 rdQ x.a7 x.vs), (x.6, cel (.ref x.lf)), (x.9, lst (chs cs) (n + 1)), (x.10, lst [] 0)] sz3 (tk3 + 1) [] (hA.le (by decide)) D3 E3 (by generalize w = w'; revert w'; exact tw_fa (by kernel_rfl) (by kernel_rfl)) ⟨by decide, by kernel_rfl, rfl⟩ (fun _ => rfl) fun r h4 sz4 tk4 hX D4 E4 => ?_
  refine gu (c_add nilS (one (c + 1)) ta t hz) [1,1] [(y.1, fra [nt w.params k_self y.b1 (.ref x.lx), nt w.params k_token y.b2 (.str nilS ta), nt w.params k_fiter y.b3 (.ref y.it), nt w.params k_ch y.b4 (.str (one (c + 1)) t)] 4), (y.2, itO y.bm y.ts), (y.3, bmO x), (x.1, ({ cls := .ref 59, dict := some x.ld })), (x.2, lexD w.params x ln tl), (x.3, ({ cls := .type "function", dict := some x.fd, data := Data.func x.dt })), (x.4, dic [nt w.params k_read x.a6 (.ref x.rd)] 1), (x.5, rdO x.cl x.ct x.cd), (x.8, cdO x.v0 rdQ x.a7 x.vs), (x.6, cel (.ref x.lf)), (x.9, lst (chs cs) (n + 1)), (x.10, lst [] 0)] sz4 tk4 [] (hA.le (by decide)) D4 E4 (by generalize w = w'; revert w'; exact tw_fa (by kernel_rfl) (by kernel_rfl)) ⟨by decide, by kernel_rfl, rfl⟩ (fun _ => rfl) fun ta' h5 sz5 tk5 hX D5 E5 => ?_
  refine gu (LCon.con (B ta')) [1,1,1,2,2,0,2,0,2] [(y.1, fra [nt w.params k_self y.4 (.ref x.1), nt w.params k_token y.5 (.str (nilS ++ one (c + 1)) ta'), nt w.params k_fiter y.6 (.ref y.2), nt w.params k_ch y.7 (.str (one (c + 1)) t)] 4), (y.2, itO y.bm y.ts), (y.3, bmO x), (x.1, ({ cls := .ref 59, dict := some x.ld })), (x.2, lexD w.params x ln tl), (x.3, ({ cls := .type "function", dict := some x.fd, data := Data.func x.dt })), (x.4, dic [nt w.params k_read x.a6 (.ref x.rd)] 1), (x.5, rdO x.cl x.ct x.cd), (x.8, cdO x.v0 rdQ x.a7 x.vs), (x.6, cel (.ref x.lf)), (x.9, lst (chs cs) (n + 1)), (x.10, lst [] 0)] sz5 (tk5 + 1) [0,1,2,3,4,5,6,7,8,9,10,11] (hA.le (by decide)) D5 E5 (by generalize w = w'; revert w'; exact tw_fa (by kernel_rfl) (by kernel_rfl)) ⟨by decide, by kernel_rfl, rfl⟩ (fun _ => rfl) fun o h6 sz6 tk6 hX D6 E6 => ?_
  exact gf (o) [] [0,1,2,3,4,5,6,7,8,9,10,11] hA D6 E6 (by generalize w = w'; revert w'; exact tw_fa (by kernel_rfl) (by kernel_rfl)) (by decide) rfl (trivial)
theorem c_o4_bE (w : World) (x : LX) (y : GX) (ta : Tok) (ch : Str) (tc : Tok) (ln ln' : Int) (tl : Tok) (c : Nat) (t : Tok) (cs : Chs) (n : Nat) (tok : Str) (hl : (chs cs).length + 1 ≤ 1000000) (hw : c + 1 ∉ [10, 9, 13, 32]) (hq : c + 1 ≠ 34) (hb : c + 1 ≠ 92) (hn : c + 1 ≠ 10)
    (B : ∀ ta' : Tok, LG w gt2 x y (gtF w.params x y (nilS ++ one (c + 1)) ta' (one (c + 1)) t) ln tl cs (n + 1) (fun _ : EOut => .ok .next) (eFs w.params x y tok ln') (fun _ => True)) :
    LG0 w x y (gtF w.params x y nilS ta ch tc) ln tl ((c + 1, t) :: cs) n (fun _ : EOut => .ok .next) (eFs w.params x y tok ln') (fun _ => True) := by
  refine lcon_in rfl fun A hA hA1 h sz tk g d os D E0 => ?_
  have hz : nilS.length + (one (c + 1)).length ≤ sizeLine := by rw [sizeLine_eq]; exact (by decide : 0 + 1 ≤ 16777216)
  refine gu (LCon.con (c_nx w x y.bm y.it y.ts ln tl c t cs n hl (eqOne hn))) [2] [(y.1, gtF w.params x y nilS ta ch tc), (y.2, itO y.bm y.ts), (y.3, bmO x), (x.1, ({ cls := .ref 59, dict := some x.ld })), (x.2, lexD w.params x ln tl), (x.3, ({ cls := .type "function", dict := some x.fd, data := Data.func x.dt })), (x.4, dic [nt w.params k_read x.a6 (.ref x.rd)] 1), (x.5, rdO x.cl x.ct x.cd), (x.8, cdO x.v0 rdQ x.a7 x.vs), (x.6, cel (.ref x.lf)), (x.9, lst (chs ((c + 1, t) :: cs)) n), (x.10, lst [] 0)] sz tk [1,2,3,4,5,6,7,8,9,10,11] (hA.le (by decide)) D E0 (by kernel_rfl) ⟨by decide, by kernel_rfl, rfl⟩ (fun _ => rfl) fun r h1 sz1 tk1 hX D1 E1 => ?_
  refine gu (c_in wsS (one (c + 1)) x.14 t false (notWs hw)) [1,1,1,1,4,0,0,0,0,4,0,0,0,4,4,0,5] [(y.1, fra [nt w.params k_self y.4 (.ref x.1), nt w.params k_token y.5 (.str nilS ta), nt w.params k_fiter y.6 (.ref y.2), nt w.params k_ch y.7 (.str (one (c + 1)) t)] 4), (y.2, itO y.bm y.ts), (y.3, bmO x), (x.1, ({ cls := .ref 59, dict := some x.ld })), (x.2, lexD w.params x ln tl), (x.3, ({ cls := .type "function", dict := some x.fd, data := Data.func x.dt })), (x.4, dic [nt w.params k_read x.a6 (.ref x.rd)] 1), (x.5, rdO x.cl x.ct x.cd), (x.8, cdO x.v0 rdQ x.a7 x.vs), (x.6, cel (.ref x.lf)), (x.9, lst (chs cs) (n + 1)), (x.10, lst [] 0)] sz1 (tk1 + 2) [] (hA.le (by decide)) D1 E1 (by kernel_rfl) ⟨by decide, by kernel_rfl, rfl⟩ (fun _ => rfl) fun r h2 sz2 tk2 hX D2 E2 => ?_
  refine gu (c_eq (one (c + 1)) (S [34]) t tk2 false (eqOne hq)) [1] [(y.1, fra [nt w.params k_self y.b1 (.ref x.lx), nt w.params k_token y.b2 (.str nilS ta), nt w.params k_fiter y.b3 (.ref y.it), nt w.params k_ch y.b4 (.str (one (c + 1)) t)] 4), (y.2, itO y.bm y.ts), (y.3, bmO x), (x.1, ({ cls := .ref 59, dict := some x.ld })), (x.2, lexD w.params x ln tl), (x.3, ({ cls := .type "function", dict := some x.fd, data := Data.func x.dt })), (x.4, dic [nt w.params k_read x.a6 (.ref x.rd)] 1), (x.5, rdO x.cl x.ct x.cd), (x.8, cdO x.v0 rdQ x.a7 x.vs), (x.6, cel (.ref x.lf)), (x.9, lst (chs cs) (n + 1)), (x.10, lst [] 0)] sz2 (tk2 + 1) [] (hA.le (by decide)) D2 E2 (by generalize w = w'; revert w'; exact tw_fa (by kernel_rfl) (by kernel_rfl)) ⟨by decide, by kernel_rfl, rfl⟩ (fun _ => rfl) fun r h3 sz3 tk3 hX D3 E3 => ?_
  refine gu (c_eq (one (c + 1)) (S [92]) t tk3 false (eqOne hb)) [1] [(y.1, fra [nt w.params k_self y.b1 (.ref x.lx), nt w.params k_token y.b2 (.str nilS ta), nt w.params k_fiter y.b3 (.ref y.it), nt w.params k_ch y.b4 (.str (one (c + 1)) t)] 4), (y.2, itO y.bm y.ts), (y.3, bmO x), (x.1, ({ cls := .ref 59, dict := some x.ld })), (x.2, lexD w.params x ln tl), (x.3, ({ cls := .type "function", dict := some x.fd, data := Data.func x.dt })), (x.4, dic [nt w.params k_read x.a6 (.ref x.rd)] 1), (x.5, rdO x.cl x.ct x.cd), (x.8, cdO x.v0 rdQ x.a7 x.vs), (x.6, cel (.ref x.lf)), (x.9, lst (chs cs) (n + 1)), (x.10, lst [] 0)] sz3 (tk3 + 1) [] (hA.le (by decide)) D3 E3 (by generalize w = w'; revert w'; exact tw_fa (by kernel_rfl) (by kernel_rfl)) ⟨by decide, by kernel_rfl, rfl⟩ (fun _ => rfl) fun r h4 sz4 tk4 hX D4 E4 => ?_
  refine gu (c_add nilS (one (c + 1)) ta t hz) [1,1] [(y.1, fra [nt w.params k_self y.b1 (.ref x.lx), nt w.params k_token y.b2 (.str nilS ta), nt w.params k_fiter y.b3 (.ref y.it), nt w.params k_ch y.b4 (.str (one (c + 1)) t)] 4), (y.2, itO y.bm y.ts), (y.3, bmO x), (x.1, ({ cls := .ref 59, dict := some x.ld })), (x.2, lexD w.params x ln tl), (x.3, ({ cls := .type "function", dict := some x.fd, data := Data.func x.dt })), (x.4, dic [nt w.params k_read x.a6 (.ref x.rd)] 1), (x.5, rdO x.cl x.ct x.cd), (x.8, cdO x.v0 rdQ x.a7 x.vs), (x.6, cel (.ref x.lf)), (x.9, lst (chs cs) (n + 1)), (x.10, lst [] 0)] sz4 tk4 [] (hA.le (by decide)) D4 E4 (by generalize w = w'; revert w'; exact tw_fa (by kernel_rfl) (by kernel_rfl)) ⟨by decide, by kernel_rfl, rfl⟩ (fun _ => rfl) fun ta' h5 sz5 tk5 hX D5 E5 => ?_
  refine gu (LCon.con (B ta')) [1,1,1,2,2,0,2,0,2] [(y.1, fra [nt w.params k_self y.4 (.ref x.1), nt w.params k_token y.5 (.str (nilS ++ one (c + 1)) ta'), nt w.params k_fiter y.6 (.ref y.2), nt w.params k_ch y.7 (.str (one (c + 1)) t)] 4), (y.2, itO y.bm y.ts), (y.3, bmO x), (x.1, ({ cls := .ref 59, dict := some x.ld })), (x.2, lexD w.params x ln tl), (x.3, ({ cls := .type "function", dict := some x.fd, data := Data.func x.dt })), (x.4, dic [nt w.params k_read x.a6 (.ref x.rd)] 1), (x.5, rdO x.cl x.ct x.cd), (x.8, cdO x.v0 rdQ x.a7 x.vs), (x.6, cel (.ref x.lf)), (x.9, lst (chs cs) (n + 1)), (x.10, lst [] 0)] sz5 (tk5 + 1) [0,1,2,3,4,5,6,7,8,9,10,11] (hA.le (by decide)) D5 E5 (by generalize w = w'; revert w'; exact tw_fa (by kernel_rfl) (by kernel_rfl)) ⟨by decide, by kernel_rfl, rfl⟩ (fun _ => rfl) fun o h6 sz6 tk6 hX D6 E6 => ?_
  refine gt (lp gt0 y.L y.it) [] [(y.1, gtF w.params x (y.at o.b) tok o.ta o.ch o.tc), (y.2, itX), (y.3, bmO x), (x.1, ({ cls := .ref 59, dict := some x.ld })), (x.2, lexD w.params x ln' o.tl), (x.3, ({ cls := .type "function", dict := some x.fd, data := Data.func x.dt })), (x.4, dic [nt w.params k_read x.a6 (.ref x.rd)] 1), (x.5, rdO x.cl x.ct x.cd), (x.8, cdO x.v0 rdQ x.a7 x.vs), (x.6, cel (.ref x.lf)), (x.9, lst (chs []) o.n), (x.10, lst [] 0)] sz6 tk6 hA hA1 D6 E6 (by generalize w = w'; revert w'; exact tw_fa (by kernel_rfl) (by kernel_rfl)) (by kernel_rfl) (by kernel_rfl) fun h7 hA7 D7 E7 => ?_
  refine gu (LCon.con (c_nxX w y.it)) [2] [(y.1, gtF w.params x (y.at o.b) tok o.ta o.ch o.tc), (y.2, itX), (y.3, bmO x), (x.1, ({ cls := .ref 59, dict := some x.ld })), (x.2, lexD w.params x ln' o.tl), (x.3, ({ cls := .type "function", dict := some x.fd, data := Data.func x.dt })), (x.4, dic [nt w.params k_read x.a6 (.ref x.rd)] 1), (x.5, rdO x.cl x.ct x.cd), (x.8, cdO x.v0 rdQ x.a7 x.vs), (x.6, cel (.ref x.lf)), (x.9, lst (chs []) o.n), (x.10, lst [] 0)] sz6 tk6 [1] (hA7.le (by decide)) D7 E7 (by kernel_rfl) ⟨by decide, by kernel_rfl, rfl⟩ (fun _ => rfl) fun r h8 sz8 tk8 hX D8 E8 => ?_
  refine gt (Code.block [] (gtE y.L)) [14] [(y.1, gtF w.params x (y.at o.b) tok o.ta o.ch o.tc), (y.2, itX), (y.3, bmO x), (x.1, ({ cls := .ref 59, dict := some x.ld })), (x.2, lexD w.params x ln' o.tl), (x.3, ({ cls := .type "function", dict := some x.fd, data := Data.func x.dt })), (x.4, dic [nt w.params k_read x.a6 (.ref x.rd)] 1), (x.5, rdO x.cl x.ct x.cd), (x.8, cdO x.v0 rdQ x.a7 x.vs), (x.6, cel (.ref x.lf)), (x.9, lst (chs []) o.n), (x.10, lst [] 0), (r.1, tup []), (r.2, excO r.fst)] sz8 tk8 hA7 hA1 D8 E8 (by kernel_rfl) (by kernel_rfl) (by kernel_rfl) fun h9 hA9 D9 E9 => ?_
  exact gf (o) [] [0,1,2,3,4,5,6,7,8,9,10,11] hA9 D9 E9 (by kernel_rfl) (by decide) rfl (trivial)
theorem c_o3_e (w : World) (x : LX) (y : GX) (ta : Tok) (ln ln' : Int) (tl : Tok) (c : Nat) (t t' : Tok) (cs rest : Chs) (n : Nat) (tok : Str) (hl : (chs ((c + 1, t') :: cs)).length + 1 ≤ 1000000) (hl' : (chs cs).length + 1 ≤ 1000000) (hn : c + 1 ≠ 10)
    (B : ∀ b ta' : Tok, LP w gt2 x (y.at b) (gtF w.params x (y.at b) (nilS ++ one (c + 1)) ta' (one (c + 1)) t') ln tl cs (n + 2) tok ln' rest) : LP0 w x y (gtF3 w.params x y ta) ln tl ((92, t) :: (c + 1, t') :: cs) n tok ln' rest := by
  refine lcon_in rfl fun A hA hA1 h sz tk g d os D E0 => ?_
  have hz : nilS.length + (one (c + 1)).length ≤ sizeLine := by rw [sizeLine_eq]; exact (by decide : 0 + 1 ≤ 16777216)
  refine gu (LCon.con (c_nx w x y.bm y.it y.ts ln tl 91 t ((c + 1, t') :: cs) n hl (eqOne (of_decide_eq_true (id (Eq.refl true)))))) [2] [(y.1, gtF3 w.params x y ta), (y.2, itO y.bm y.ts), (y.3, bmO x), (x.1, ({ cls := .ref 59, dict := some x.ld })), (x.2, lexD w.params x ln tl), (x.3, ({ cls := .type "function", dict := some x.fd, data := Data.func x.dt })), (x.4, dic [nt w.params k_read x.a6 (.ref x.rd)] 1), (x.5, rdO x.cl x.ct x.cd), (x.8, cdO x.v0 rdQ x.a7 x.vs), (x.6, cel (.ref x.lf)), (x.9, lst (chs ((92, t) :: (c + 1, t') :: cs)) n), (x.10, lst [] 0)] sz tk [1,2,3,4,5,6,7,8,9,10,11] (hA.le (by decide)) D E0 (by kernel_rfl) ⟨by decide, by kernel_rfl, rfl⟩ (fun _ => rfl) fun r h1 sz1 tk1 hX D1 E1 => ?_
  refine gu (LCon.con (c_rc w x ln tl (c + 1) t' cs (n + 1) hl' (eqOne hn))) [1,1,1,1,4,0,0,0,0,4,0,0,0,4,4,0,5,0,0,1,0,0,1,0,0,1,4,0,0,0,4,0,0,0,4,0,0,0,0,4,5,0] [(y.1, fra [nt w.params k_self y.4 (.ref x.1), nt w.params k_token y.5 (.str nilS ta), nt w.params k_fiter y.6 (.ref y.2), nt w.params k_ch tk1 (.str (S [92]) t)] 4), (y.2, itO y.bm y.ts), (y.3, bmO x), (x.1, ({ cls := .ref 59, dict := some x.ld })), (x.2, lexD w.params x ln tl), (x.3, ({ cls := .type "function", dict := some x.fd, data := Data.func x.dt })), (x.4, dic [nt w.params k_read x.a6 (.ref x.rd)] 1), (x.5, rdO x.cl x.ct x.cd), (x.8, cdO x.v0 rdQ x.a7 x.vs), (x.6, cel (.ref x.lf)), (x.9, lst (chs ((c + 1, t') :: cs)) (n + 1)), (x.10, lst [] 0)] sz1 (tk1 + 4) [3,4,5,6,7,8,9,10,11] (hA.le (by decide)) D1 E1 (by generalize w = w'; revert w'; exact tw_fa (by kernel_rfl) (by kernel_rfl)) ⟨by decide, by kernel_rfl, rfl⟩ (fun _ => rfl) fun r h2 sz2 tk2 hX D2 E2 => ?_
  refine gu (c_add nilS (one (c + 1)) ta t' hz) [1,1,1,1] [(y.1, fra [nt w.params k_self y.4 (.ref x.1), nt w.params k_token y.5 (.str nilS ta), nt w.params k_fiter y.6 (.ref y.2), nt w.params k_ch tk1 (.str (one (c + 1)) t')] 4), (y.2, itO y.bm y.ts), (y.3, bmO x), (x.1, ({ cls := .ref 59, dict := some x.ld })), (x.2, lexD w.params x ln tl), (x.3, ({ cls := .type "function", dict := some x.fd, data := Data.func x.dt })), (x.4, dic [nt w.params k_read x.a6 (.ref x.rd)] 1), (x.5, rdO x.cl x.ct x.cd), (x.8, cdO x.v0 rdQ x.a7 x.vs), (x.6, cel (.ref x.lf)), (x.9, lst (chs cs) (n + 1 + 1)), (x.10, lst [] 0)] sz2 (tk2 + 1) [] (hA.le (by decide)) D2 E2 (by generalize w = w'; revert w'; exact tw_fa (by kernel_rfl) (by kernel_rfl)) ⟨by decide, by kernel_rfl, rfl⟩ (fun _ => rfl) fun ta' h5 sz5 tk5 hX D5 E5 => ?_
  refine gu (LCon.con (B tk1 ta')) [1,1,1,2,2,0,2,0,2] [(y.1, fra [nt w.params k_self y.4 (.ref x.1), nt w.params k_token y.5 (.str (nilS ++ one (c + 1)) ta'), nt w.params k_fiter y.6 (.ref y.2), nt w.params k_ch tk1 (.str (one (c + 1)) t')] 4), (y.2, itO y.bm y.ts), (y.3, bmO x), (x.1, ({ cls := .ref 59, dict := some x.ld })), (x.2, lexD w.params x ln tl), (x.3, ({ cls := .type "function", dict := some x.fd, data := Data.func x.dt })), (x.4, dic [nt w.params k_read x.a6 (.ref x.rd)] 1), (x.5, rdO x.cl x.ct x.cd), (x.8, cdO x.v0 rdQ x.a7 x.vs), (x.6, cel (.ref x.lf)), (x.9, lst (chs cs) (n + 1 + 1)), (x.10, lst [] 0)] sz5 (tk5 + 1) [0,1,2,3,4,5,6,7,8,9,10,11] (hA.le (by decide)) D5 E5 (by generalize w = w'; revert w'; exact tw_fa (by kernel_rfl) (by kernel_rfl)) ⟨by decide, by kernel_rfl, rfl⟩ (fun _ => rfl) fun o h6 sz6 tk6 hX D6 E6 => ?_
  exact gf (o) [] [0,1,2,3,4,5,6,7,8,9,10,11] hA D6 E6 (by generalize w = w'; revert w'; exact tw_fa (by kernel_rfl) (by kernel_rfl)) (by decide) rfl (trivial)
theorem c_o3_eN (w : World) (x : LX) (y : GX) (ta : Tok) (ln ln' : Int) (tl : Tok) (t t' : Tok) (cs rest : Chs) (n : Nat) (tok : Str) (hl : (chs ((10, t') :: cs)).length + 1 ≤ 1000000) (hl' : (chs cs).length + 1 ≤ 1000000)
    (B : ∀ b ta' tl' : Tok, LP w gt2 x (y.at b) (gtF w.params x (y.at b) (nilS ++ one 10) ta' (one 10) t') (ln + 1) tl' cs (n + 2) tok ln' rest) : LP0 w x y (gtF3 w.params x y ta) ln tl ((92, t) :: (10, t') :: cs) n tok ln' rest := by
  refine lcon_in rfl fun A hA hA1 h sz tk g d os D E0 => ?_
  have hz : nilS.length + (one 10).length ≤ sizeLine := by rw [sizeLine_eq]; exact (by decide : 0 + 1 ≤ 16777216)
  refine gu (LCon.con (c_nx w x y.bm y.it y.ts ln tl 91 t ((10, t') :: cs) n hl (eqOne (of_decide_eq_true (id (Eq.refl true)))))) [2] [(y.1, gtF3 w.params x y ta), (y.2, itO y.bm y.ts), (y.3, bmO x), (x.1, ({ cls := .ref 59, dict := some x.ld })), (x.2, lexD w.params x ln tl), (x.3, ({ cls := .type "function", dict := some x.fd, data := Data.func x.dt })), (x.4, dic [nt w.params k_read x.a6 (.ref x.rd)] 1), (x.5, rdO x.cl x.ct x.cd), (x.8, cdO x.v0 rdQ x.a7 x.vs), (x.6, cel (.ref x.lf)), (x.9, lst (chs ((92, t) :: (10, t') :: cs)) n), (x.10, lst [] 0)] sz tk [1,2,3,4,5,6,7,8,9,10,11] (hA.le (by decide)) D E0 (by kernel_rfl) ⟨by decide, by kernel_rfl, rfl⟩ (fun _ => rfl) fun r h1 sz1 tk1 hX D1 E1 => ?_
  refine gu (LCon.con (c_rcN w x ln tl t' cs (n + 1) hl')) [1,1,1,1,4,0,0,0,0,4,0,0,0,4,4,0,5,0,0,1,0,0,1,0,0,1,4,0,0,0,4,0,0,0,4,0,0,0,0,4,5,0] [(y.1, fra [nt w.params k_self y.4 (.ref x.1), nt w.params k_token y.5 (.str nilS ta), nt w.params k_fiter y.6 (.ref y.2), nt w.params k_ch tk1 (.str (S [92]) t)] 4), (y.2, itO y.bm y.ts), (y.3, bmO x), (x.1, ({ cls := .ref 59, dict := some x.ld })), (x.2, lexD w.params x ln tl), (x.3, ({ cls := .type "function", dict := some x.fd, data := Data.func x.dt })), (x.4, dic [nt w.params k_read x.a6 (.ref x.rd)] 1), (x.5, rdO x.cl x.ct x.cd), (x.8, cdO x.v0 rdQ x.a7 x.vs), (x.6, cel (.ref x.lf)), (x.9, lst (chs ((10, t') :: cs)) (n + 1)), (x.10, lst [] 0)] sz1 (tk1 + 4) [3,4,5,6,7,8,9,10,11] (hA.le (by decide)) D1 E1 (by generalize w = w'; revert w'; exact tw_fa (by kernel_rfl) (by kernel_rfl)) ⟨by decide, by kernel_rfl, rfl⟩ (fun _ => rfl) fun tl' h2 sz2 tk2 hX D2 E2 => ?_
  refine gu (c_add nilS (one 10) ta t' hz) [1,1,1,1] [(y.1, fra [nt w.params k_self y.4 (.ref x.1), nt w.params k_token y.5 (.str nilS ta), nt w.params k_fiter y.6 (.ref y.2), nt w.params k_ch tk1 (.str (S [10]) t')] 4), (y.2, itO y.bm y.ts), (y.3, bmO x), (x.1, ({ cls := .ref 59, dict := some x.ld })), (x.2, lexD w.params x (ln + 1) tl'), (x.3, ({ cls := .type "function", dict := some x.fd, data := Data.func x.dt })), (x.4, dic [nt w.params k_read x.a6 (.ref x.rd)] 1), (x.5, rdO x.cl x.ct x.cd), (x.8, cdO x.v0 rdQ x.a7 x.vs), (x.6, cel (.ref x.lf)), (x.9, lst (chs cs) (n + 1 + 1)), (x.10, lst [] 0)] sz2 (tk2 + 1) [] (hA.le (by decide)) D2 E2 (by generalize w = w'; revert w'; exact tw_fa (by kernel_rfl) (by kernel_rfl)) ⟨by decide, by kernel_rfl, rfl⟩ (fun _ => rfl) fun ta' h5 sz5 tk5 hX D5 E5 => ?_
  refine gu (LCon.con (B tk1 ta' tl')) [1,1,1,2,2,0,2,0,2] [(y.1, fra [nt w.params k_self y.4 (.ref x.1), nt w.params k_token y.5 (.str (S [10]) ta'), nt w.params k_fiter y.6 (.ref y.2), nt w.params k_ch tk1 (.str (S [10]) t')] 4), (y.2, itO y.bm y.ts), (y.3, bmO x), (x.1, ({ cls := .ref 59, dict := some x.ld })), (x.2, lexD w.params x (ln + 1) tl'), (x.3, ({ cls := .type "function", dict := some x.fd, data := Data.func x.dt })), (x.4, dic [nt w.params k_read x.a6 (.ref x.rd)] 1), (x.5, rdO x.cl x.ct x.cd), (x.8, cdO x.v0 rdQ x.a7 x.vs), (x.6, cel (.ref x.lf)), (x.9, lst (chs cs) (n + 1 + 1)), (x.10, lst [] 0)] sz5 (tk5 + 1) [0,1,2,3,4,5,6,7,8,9,10,11] (hA.le (by decide)) D5 E5 (by generalize w = w'; revert w'; exact tw_fa (by kernel_rfl) (by kernel_rfl)) ⟨by decide, by kernel_rfl, rfl⟩ (fun _ => rfl) fun o h6 sz6 tk6 hX D6 E6 => ?_
  exact gf (o) [] [0,1,2,3,4,5,6,7,8,9,10,11] hA D6 E6 (by generalize w = w'; revert w'; exact tw_fa (by kernel_rfl) (by kernel_rfl)) (by decide) rfl (trivial)
end Mine
end
set_option maxHeartbeats 1000000
noncomputable section
namespace Mine
/-! ## get_token -/
noncomputable def gtC (lx : Addr) : Code := .call (.ref 49) ⟨[.ref lx], []⟩
theorem c_gt (w : World) (x : LX) (ln ln' : Int) (tl : Tok) (cs rest : Chs) (n : Nat) (tok : Str)
    (Lp : ∀ (y : GX) (ta : Tok), LP0 w x y (gtF3 w.params x y ta) ln tl cs n tok ln' rest) :
    LCon pw w (G w.params) 18 (gtC x.lx) (x.fs w.params ln tl cs n) (fun o : LOut => ret (.str tok o.t)) (fun o => x.fs w.params ln' o.tl rest o.n) (fun _ => True) := by
  refine lcon_in rfl fun A hA hA1 h sz tk g d os D E0 => ?_
  refine gd (Code.func (bodOf gtS) (gtE sz)) [0,0,10,10] [(x.1, ({ cls := .ref 59, dict := some x.ld })), (x.2, lexD w.params x ln tl), (x.3, ({ cls := .type "function", dict := some x.fd, data := Data.func x.dt })), (x.4, dic [nt w.params k_read x.a6 (.ref x.rd)] 1), (x.5, rdO x.cl x.ct x.cd), (x.8, cdO x.v0 rdQ x.a7 x.vs), (x.6, cel (.ref x.lf)), (x.9, lst (chs cs) n), (x.10, lst [] 0), (sz, fra [nt w.params k_self tk (.ref x.1)] 1)] (sz + 1) (tk + 1) hA hA1 D E0 (by kernel_rfl) rfl rfl fun h1 hA2 D1 E1 => ?_
  refine gu (LCon.con (Lp { L := sz, it := sz + 2, bm := sz + 1, b1 := tk, b2 := tk + 5, b3 := tk + 8, b4 := 0, ts := tk + 7 } (tk + 4))) [10,1,0,0,0,0,1,0,0,0,1,1,0,2,9,9,0,9,0,9,0,9,10,10,0,0,10,1,0,0,0,0,1,0,0,0,0,0,0,1,1,0,2,0,0,0,0,0,0,0,0,11,10,10,10,12,12,0,12,0,12] [(x.1, ({ cls := .ref 59, dict := some x.ld })), (x.2, lexD w.params x ln tl), (x.3, ({ cls := .type "function", dict := some x.fd, data := Data.func x.dt })), (x.4, dic [nt w.params k_read x.a6 (.ref x.rd)] 1), (x.5, rdO x.cl x.ct x.cd), (x.8, cdO x.v0 rdQ x.a7 x.vs), (x.6, cel (.ref x.lf)), (x.9, lst (chs cs) n), (x.10, lst [] 0), (sz, fra [nt w.params k_self tk (.ref x.1), nt w.params k_token (tk + 5) (.str nilS (tk + 4)), nt w.params k_fiter (tk + 8) (.ref (sz + 2))] 3), ((sz + 1), fld "method" [(.ref 42), (.ref x.1)]), ((sz + 2), fld "callable_iterator" [(.ref (sz + 1)), (.str nilS (tk + 7)), (.bool false)])] (sz + 3) (tk + 9) [9,11,10,0,1,2,3,4,5,6,7,8] (hA2.le (by decide)) D1 E1 (by generalize w = w'; revert w'; exact tw_fa (by kernel_rfl) (by kernel_rfl)) ⟨by decide, by kernel_rfl, rfl⟩ (fun _ => rfl) fun o h2 sz2 tk2 hX D2 E2 => ?_
  exact gf (o) [] [0,1,2,3,4,5,6,7,8] hA2 D2 E2 (by generalize w = w'; revert w'; exact tw_fa (by kernel_rfl) (by kernel_rfl)) (by decide) rfl (trivial)
theorem c_gt0 (w : World) (x : LX) (ln : Int) (tl : Tok) (n : Nat) :
    LCon pw w (G w.params) 18 (gtC x.lx) (x.fs w.params ln tl [] n) (fun o : LOut => ret (.str nilS o.t)) (fun o => x.fs w.params ln o.tl [] o.n) (fun _ => True) := by
  refine lcon_in rfl fun A hA hA1 h sz tk g d os D E0 => ?_
  refine gd (Code.func (bodOf gtS) (gtE sz)) [0,0,10,10] [(x.1, ({ cls := .ref 59, dict := some x.ld })), (x.2, lexD w.params x ln tl), (x.3, ({ cls := .type "function", dict := some x.fd, data := Data.func x.dt })), (x.4, dic [nt w.params k_read x.a6 (.ref x.rd)] 1), (x.5, rdO x.cl x.ct x.cd), (x.8, cdO x.v0 rdQ x.a7 x.vs), (x.6, cel (.ref x.lf)), (x.9, lst (chs []) n), (x.10, lst [] 0), (sz, fra [nt w.params k_self tk (.ref x.1)] 1)] (sz + 1) (tk + 1) hA hA1 D E0 (by kernel_rfl) rfl rfl fun h1 hA2 D1 E1 => ?_
  refine gu (LCon.con (c_o3_eof w x { L := sz, it := sz + 2, bm := sz + 1, b1 := tk, b2 := tk + 5, b3 := tk + 8, b4 := 0, ts := tk + 7 } (tk + 4) ln tl n)) [10,1,0,0,0,0,1,0,0,0,1,1,0,2,9,9,0,9,0,9,0,9,10,10,0,0,10,1,0,0,0,0,1,0,0,0,0,0,0,1,1,0,2,0,0,0,0,0,0,0,0,11,10,10,10,12,12,0,12,0,12] [(x.1, ({ cls := .ref 59, dict := some x.ld })), (x.2, lexD w.params x ln tl), (x.3, ({ cls := .type "function", dict := some x.fd, data := Data.func x.dt })), (x.4, dic [nt w.params k_read x.a6 (.ref x.rd)] 1), (x.5, rdO x.cl x.ct x.cd), (x.8, cdO x.v0 rdQ x.a7 x.vs), (x.6, cel (.ref x.lf)), (x.9, lst (chs []) n), (x.10, lst [] 0), (sz, fra [nt w.params k_self tk (.ref x.1), nt w.params k_token (tk + 5) (.str nilS (tk + 4)), nt w.params k_fiter (tk + 8) (.ref (sz + 2))] 3), ((sz + 1), fld "method" [(.ref 42), (.ref x.1)]), ((sz + 2), fld "callable_iterator" [(.ref (sz + 1)), (.str nilS (tk + 7)), (.bool false)])] (sz + 3) (tk + 9) [9,11,10,0,1,2,3,4,5,6,7,8] (hA2.le (by decide)) D1 E1 (by generalize w = w'; revert w'; exact tw_fa (by kernel_rfl) (by kernel_rfl)) ⟨by decide, by kernel_rfl, rfl⟩ (fun _ => rfl) fun o h2 sz2 tk2 hX D2 E2 => ?_
  exact gf ({ t := tk + 4, tl := tl, fo := tup [], n := n }) [10] [0,1,2,3,4,5,6,7,8] hA2 D2 E2 (by generalize w = w'; revert w'; exact tw_fa (by kernel_rfl) (by kernel_rfl)) (by decide) rfl (trivial)
theorem c_gtE (w : World) (x : LX) (ln ln' : Int) (tl : Tok) (cs : Chs) (n : Nat) (tok : Str)
    (Lp : ∀ (y : GX) (ta : Tok), LG0 w x y (gtF3 w.params x y ta) ln tl cs n (fun _ : EOut => .ok .next) (eFs w.params x y tok ln') (fun _ => True)) :
    LCon pw w (G w.params) 18 (gtC x.lx) (x.fs w.params ln tl cs n) (fun o : LOut => ret (.str tok o.t)) (fun o => x.fs w.params ln' o.tl [] o.n) (fun _ => True) := by
  refine lcon_in rfl fun A hA hA1 h sz tk g d os D E0 => ?_
  refine gd (Code.func (bodOf gtS) (gtE sz)) [0,0,10,10] [(x.1, ({ cls := .ref 59, dict := some x.ld })), (x.2, lexD w.params x ln tl), (x.3, ({ cls := .type "function", dict := some x.fd, data := Data.func x.dt })), (x.4, dic [nt w.params k_read x.a6 (.ref x.rd)] 1), (x.5, rdO x.cl x.ct x.cd), (x.8, cdO x.v0 rdQ x.a7 x.vs), (x.6, cel (.ref x.lf)), (x.9, lst (chs cs) n), (x.10, lst [] 0), (sz, fra [nt w.params k_self tk (.ref x.1)] 1)] (sz + 1) (tk + 1) hA hA1 D E0 (by kernel_rfl) rfl rfl fun h1 hA2 D1 E1 => ?_
  refine gu (LCon.con (Lp { L := sz, it := sz + 2, bm := sz + 1, b1 := tk, b2 := tk + 5, b3 := tk + 8, b4 := 0, ts := tk + 7 } (tk + 4))) [10,1,0,0,0,0,1,0,0,0,1,1,0,2,9,9,0,9,0,9,0,9,10,10,0,0,10,1,0,0,0,0,1,0,0,0,0,0,0,1,1,0,2,0,0,0,0,0,0,0,0,11,10,10,10,12,12,0,12,0,12] [(x.1, ({ cls := .ref 59, dict := some x.ld })), (x.2, lexD w.params x ln tl), (x.3, ({ cls := .type "function", dict := some x.fd, data := Data.func x.dt })), (x.4, dic [nt w.params k_read x.a6 (.ref x.rd)] 1), (x.5, rdO x.cl x.ct x.cd), (x.8, cdO x.v0 rdQ x.a7 x.vs), (x.6, cel (.ref x.lf)), (x.9, lst (chs cs) n), (x.10, lst [] 0), (sz, fra [nt w.params k_self tk (.ref x.1), nt w.params k_token (tk + 5) (.str nilS (tk + 4)), nt w.params k_fiter (tk + 8) (.ref (sz + 2))] 3), ((sz + 1), fld "method" [(.ref 42), (.ref x.1)]), ((sz + 2), fld "callable_iterator" [(.ref (sz + 1)), (.str nilS (tk + 7)), (.bool false)])] (sz + 3) (tk + 9) [9,11,10,0,1,2,3,4,5,6,7,8] (hA2.le (by decide)) D1 E1 (by generalize w = w'; revert w'; exact tw_fa (by kernel_rfl) (by kernel_rfl)) ⟨by decide, by kernel_rfl, rfl⟩ (fun _ => rfl) fun o h2 sz2 tk2 hX D2 E2 => ?_
  exact gf ({ t := o.ta, tl := o.tl, fo := tup [], n := o.n }) [10] [0,1,2,3,4,5,6,7,8] hA2 D2 E2 (by generalize w = w'; revert w'; exact tw_fa (by kernel_rfl) (by kernel_rfl)) (by decide) rfl (trivial)
end Mine
end
set_option maxHeartbeats 1000000
noncomputable section
namespace Mine
/-! ## Tokens by their signs -/
theorem str_nil (a : Str) : a ++ S [] = a := by
  obtain ⟨⟨l⟩⟩ := a
  show (⟨⟨l⟩ ++ ⟨[]⟩⟩ : Str) = ⟨⟨l⟩⟩
  congr 1
theorem nil_str (a : Str) : nilS ++ a = a := by
  obtain ⟨⟨l⟩⟩ := a
  show (⟨⟨[]⟩ ++ ⟨l⟩⟩ : Str) = ⟨⟨l⟩⟩
  congr 1
  apply Array.toList_inj.mp
  simp
theorem str_cons (a : Str) (c : Nat) (l : List Nat) : (a ++ one c) ++ S l = a ++ S (c :: l) := by
  obtain ⟨⟨k⟩⟩ := a
  show (⟨(⟨k⟩ ++ ⟨[c]⟩) ++ ⟨l⟩⟩ : Str) = ⟨⟨k⟩ ++ ⟨c :: l⟩⟩
  congr 1
  apply Array.toList_inj.mp
  simp
theorem one_S (c : Nat) (l : List Nat) : one c ++ S l = S (c :: l) := by
  show (⟨⟨[c]⟩ ++ ⟨l⟩⟩ : Str) = ⟨⟨c :: l⟩⟩
  congr 1
  apply Array.toList_inj.mp
  simp
theorem S_S (k l : List Nat) : S k ++ S l = S (k ++ l) := by
  show (⟨⟨k⟩ ++ ⟨l⟩⟩ : Str) = ⟨⟨k ++ l⟩⟩
  congr 1
  apply Array.toList_inj.mp
  simp
theorem len_app (a : Str) (c : Nat) : (a ++ one c).length = a.length + 1 := by
  obtain ⟨⟨k⟩⟩ := a
  show (⟨k⟩ ++ ⟨[c]⟩ : Array Nat).size = (⟨k⟩ : Array Nat).size + 1
  simp
/-- the signs `l`, then `r` -/
noncomputable def Pre : List Nat → Chs → Chs → Prop
  | [], cs, r => cs = r
  | c :: l, cs, r => ∃ t cs', cs = (c, t) :: cs' ∧ Pre l cs' r
theorem Pre.app : ∀ {a b : List Nat} {cs r : Chs}, Pre (a ++ b) cs r ↔ ∃ m, Pre a cs m ∧ Pre b m r
  | [], b, cs, r => ⟨fun h => ⟨cs, rfl, h⟩, fun ⟨m, e, h⟩ => by cases e; exact h⟩
  | c :: a, b, cs, r => by
    constructor
    · rintro ⟨t, cs', rfl, h⟩
      obtain ⟨m, h1, h2⟩ := Pre.app.mp h
      exact ⟨m, ⟨t, cs', rfl, h1⟩, h2⟩
    · rintro ⟨m, ⟨t, cs', rfl, h1⟩, h2⟩
      exact ⟨t, cs', rfl, Pre.app.mpr ⟨m, h1, h2⟩⟩
theorem Pre.len : ∀ {a : List Nat} {cs r : Chs}, Pre a cs r → cs.length = a.length + r.length
  | [], cs, r, h => by cases h; simp
  | c :: a, cs, r, ⟨t, cs', e, h⟩ => by
    subst e
    have := Pre.len h
    simp only [List.length_cons, this]
    omega
/-- a spelling: each sign, with a backslash ahead or none -/
noncomputable abbrev Spl := List (Bool × Nat)
noncomputable def Spl.txt : Spl → List Nat
  | [] => []
  | (true, c) :: u => 92 :: c :: Spl.txt u
  | (false, c) :: u => c :: Spl.txt u
noncomputable def Spl.wrd (u : Spl) : List Nat := u.map (·.2)
noncomputable def nls (l : List Nat) : Int := (l.count 10 : Nat)
theorem nls_nil : nls [] = 0 := rfl
theorem nls_ten (l : List Nat) : nls (10 :: l) = nls l + 1 := by
  unfold nls
  rw [List.count_cons_self]
  simp
theorem nls_ne {c : Nat} (l : List Nat) (h : c ≠ 10) : nls (c :: l) = nls l := by
  unfold nls
  rw [List.count_cons_of_ne h]
noncomputable def Bare (u : Spl) : Prop := ∀ p ∈ u, p.2 ≠ 0 ∧ (p.1 = false → p.2 ∉ [10, 9, 13, 32] ∧ p.2 ≠ 92)
noncomputable def Quo (u : Spl) : Prop := ∀ p ∈ u, p.2 ≠ 0 ∧ (p.1 = false → p.2 ≠ 34 ∧ p.2 ≠ 92) ∧ (p.1 = true → p.2 ≠ 10)
theorem chs_le {cs : Chs} {n : Nat} (h : cs.length < n) : (chs cs).length + 1 ≤ n := by rw [chs_length]; exact h
theorem hw_nn {c : Nat} (h : c ∉ [10, 9, 13, 32]) : c ≠ 10 := fun e => h (e ▸ .head _)
/-- the loop over a bare word, up to what ends it -/
theorem bare_run {β : Type} {res : β → Result} {fs2 : β → Facts} {X : β → Prop} (w : World) (x : LX) (y : GX) (mid : Chs) : ∀ (u : Spl) (acc : Str) (ta : Tok) (ch : Str) (tc : Tok) (ln : Int) (tl : Tok) (cs : Chs) (n : Nat), Bare u → Pre u.txt cs mid →
    cs.length < 900000 → acc.length + cs.length < 900000 →
    (∀ (ta : Tok) (ch : Str) (tc tl : Tok) (n : Nat), LG w gt2 x y (gtF w.params x y (acc ++ S u.wrd) ta ch tc) (ln + nls u.wrd) tl mid n res fs2 X) → LG w gt2 x y (gtF w.params x y acc ta ch tc) ln tl cs n res fs2 X
  | [], acc, ta, ch, tc, ln, tl, cs, n, _, e, _, _, H => by
    cases e
    have := H ta ch tc tl n
    rw [show Spl.wrd [] = [] from rfl, str_nil, nls_nil, Int.add_zero] at this
    exact this
  | (false, 0) :: u, acc, ta, ch, tc, ln, tl, cs, n, hb, _, _, _, _ => absurd rfl (hb _ (.head _)).1
  | (true, 0) :: u, acc, ta, ch, tc, ln, tl, cs, n, hb, _, _, _, _ => absurd rfl (hb _ (.head _)).1
  | (false, c + 1) :: u, acc, ta, ch, tc, ln, tl, cs, n, hb, ⟨t, cs', e, hp⟩, hl, ha, H => by
    subst e
    have hq := (hb _ (.head _)).2 rfl
    rw [List.length_cons] at hl ha
    refine c_bare_pl w x y acc ta ch tc ln tl c t cs' n (chs_le (by omega)) (by show acc.length + 1 ≤ 2 ^ 24; omega) hq.1 hq.2 (hw_nn hq.1) fun ta' => ?_
    refine bare_run w x y mid u _ _ _ _ _ _ cs' _ (fun p hm => hb p (.tail _ hm)) hp (by omega) (by rw [len_app]; omega) fun ta ch tc tl n => ?_
    have := H ta ch tc tl n
    rw [show Spl.wrd ((false, c + 1) :: u) = (c + 1) :: Spl.wrd u from rfl, ← str_cons, nls_ne _ (hw_nn hq.1)] at this
    exact this
  | (true, c + 1) :: u, acc, ta, ch, tc, ln, tl, cs, n, hb, ⟨t, cs', e, t', cs2, e', hp⟩, hl, ha, H => by
    subst e e'
    rw [List.length_cons, List.length_cons] at hl ha
    by_cases hn : c + 1 = 10
    · obtain rfl : c = 9 := by omega
      refine c_bare_escN w x y acc ta ch tc ln tl t t' cs2 n (chs_le (by rw [List.length_cons]; omega)) (chs_le (by omega)) (by show acc.length + 1 ≤ 2 ^ 24; omega) fun ta' tl' => ?_
      refine bare_run w x y mid u _ _ _ _ _ _ cs2 _ (fun p hm => hb p (.tail _ hm)) hp (by omega) (by rw [len_app]; omega) fun ta ch tc tl n => ?_
      have := H ta ch tc tl n
      rw [show Spl.wrd ((true, 9 + 1) :: u) = 10 :: Spl.wrd u from rfl, ← str_cons, nls_ten, Int.add_comm (nls _) 1, ← Int.add_assoc] at this
      exact this
    · refine c_bare_esc w x y acc ta ch tc ln tl c t t' cs2 n (chs_le (by rw [List.length_cons]; omega)) (chs_le (by omega)) (by show acc.length + 1 ≤ 2 ^ 24; omega) hn fun ta' => ?_
      refine bare_run w x y mid u _ _ _ _ _ _ cs2 _ (fun p hm => hb p (.tail _ hm)) hp (by omega) (by rw [len_app]; omega) fun ta ch tc tl n => ?_
      have := H ta ch tc tl n
      rw [show Spl.wrd ((true, c + 1) :: u) = (c + 1) :: Spl.wrd u from rfl, ← str_cons, nls_ne _ hn] at this
      exact this
/-- the loop between quotation marks -/
theorem qu_run {β : Type} {res : β → Result} {fs2 : β → Facts} {X : β → Prop} (w : World) (x : LX) (y : GX) (mid : Chs) : ∀ (u : Spl) (acc : Str) (ta : Tok) (ch : Str) (tc : Tok) (ln : Int) (tl : Tok) (cs : Chs) (n : Nat), Quo u → Pre u.txt cs mid →
    cs.length < 900000 → acc.length + cs.length < 900000 →
    (∀ (ta : Tok) (ch : Str) (tc tl : Tok) (n : Nat), LG w gt1 x y (gtF w.params x y (acc ++ S u.wrd) ta ch tc) (ln + nls u.wrd) tl mid n res fs2 X) → LG w gt1 x y (gtF w.params x y acc ta ch tc) ln tl cs n res fs2 X
  | [], acc, ta, ch, tc, ln, tl, cs, n, _, e, _, _, H => by
    cases e
    have := H ta ch tc tl n
    rw [show Spl.wrd [] = [] from rfl, str_nil, nls_nil, Int.add_zero] at this
    exact this
  | (false, 0) :: u, acc, ta, ch, tc, ln, tl, cs, n, hb, _, _, _, _ => absurd rfl (hb _ (.head _)).1
  | (true, 0) :: u, acc, ta, ch, tc, ln, tl, cs, n, hb, _, _, _, _ => absurd rfl (hb _ (.head _)).1
  | (false, c + 1) :: u, acc, ta, ch, tc, ln, tl, cs, n, hb, ⟨t, cs', e, hp⟩, hl, ha, H => by
    subst e
    have hq := (hb _ (.head _)).2.1 rfl
    rw [List.length_cons] at hl ha
    by_cases hn : c + 1 = 10
    · obtain rfl : c = 9 := by omega
      refine c_qu_nl w x y acc ta ch tc ln tl t cs' n (chs_le (by omega)) (by show acc.length + 1 ≤ 2 ^ 24; omega) fun ta' tl' => ?_
      refine qu_run w x y mid u _ _ _ _ _ _ cs' _ (fun p hm => hb p (.tail _ hm)) hp (by omega) (by rw [len_app]; omega) fun ta ch tc tl n => ?_
      have := H ta ch tc tl n
      rw [show Spl.wrd ((false, 9 + 1) :: u) = 10 :: Spl.wrd u from rfl, ← str_cons, nls_ten, Int.add_comm (nls _) 1, ← Int.add_assoc] at this
      exact this
    · refine c_qu_pl w x y acc ta ch tc ln tl c t cs' n (chs_le (by omega)) (by show acc.length + 1 ≤ 2 ^ 24; omega) hq.1 hq.2 hn fun ta' => ?_
      refine qu_run w x y mid u _ _ _ _ _ _ cs' _ (fun p hm => hb p (.tail _ hm)) hp (by omega) (by rw [len_app]; omega) fun ta ch tc tl n => ?_
      have := H ta ch tc tl n
      rw [show Spl.wrd ((false, c + 1) :: u) = (c + 1) :: Spl.wrd u from rfl, ← str_cons, nls_ne _ hn] at this
      exact this
  | (true, c + 1) :: u, acc, ta, ch, tc, ln, tl, cs, n, hb, ⟨t, cs', e, t', cs2, e', hp⟩, hl, ha, H => by
    subst e e'
    have hn := (hb _ (.head _)).2.2 rfl
    rw [List.length_cons, List.length_cons] at hl ha
    refine c_qu_esc w x y acc ta ch tc ln tl c t t' cs2 n (chs_le (by rw [List.length_cons]; omega)) (chs_le (by omega)) (by show acc.length + 1 ≤ 2 ^ 24; omega) hn fun ta' => ?_
    refine qu_run w x y mid u _ _ _ _ _ _ cs2 _ (fun p hm => hb p (.tail _ hm)) hp (by omega) (by rw [len_app]; omega) fun ta ch tc tl n => ?_
    have := H ta ch tc tl n
    rw [show Spl.wrd ((true, c + 1) :: u) = (c + 1) :: Spl.wrd u from rfl, ← str_cons, nls_ne _ hn] at this
    exact this
/-! ### whole tokens -/
/-- get_token hands back `tok` and leaves `rest` -/
noncomputable abbrev GT (w : World) (x : LX) (ln : Int) (cs : Chs) (tok : Str) (ln' : Int) (rest : Chs) : Prop :=
  ∀ (tl : Tok) (n : Nat), LCon pw w (G w.params) 18 (gtC x.lx) (x.fs w.params ln tl cs n) (fun o : LOut => ret (.str tok o.t)) (fun o => x.fs w.params ln' o.tl rest o.n) (fun _ => True)
theorem gt_nil (w : World) (x : LX) (ln : Int) : GT w x ln [] nilS ln [] := fun tl n => c_gt0 w x ln tl n
/-- a word in quotation marks -/
theorem gt_quo (w : World) (x : LX) (ln : Int) (u : Spl) (cs rest : Chs) (hu : Quo u) (hp : Pre (34 :: (u.txt ++ [34])) cs rest) (hl : cs.length < 900000) : GT w x ln cs (S u.wrd) (ln + nls u.wrd) rest := by
  intro tl n
  obtain ⟨t, cs', rfl, hp⟩ := hp
  obtain ⟨m, hp1, t2, r, rfl, rfl⟩ := Pre.app.mp hp
  clear hp
  have hp := hp1
  rw [List.length_cons] at hl
  have hl2 := hp.len
  rw [List.length_cons] at hl2
  refine c_gt w x ln _ tl _ _ n _ fun y ta => c_o3_q w x y ta ln _ tl t cs' r n _ (chs_le (by omega)) fun b => ?_
  refine qu_run w x (y.at b) _ u nilS ta _ t ln tl cs' _ hu hp (by omega) (by show 0 + _ < _; omega) fun ta ch tc tl n => ?_
  rw [nil_str]
  exact c_qu_end w x (y.at b) _ ta ch tc _ tl t2 r n (chs_le (by omega))
/-- what ends a bare word -/
noncomputable def sepLn (c : Nat) : Int := if c = 10 then 1 else 0
theorem bare_end (w : World) (x : LX) (y : GX) (acc : Str) (ta : Tok) (ch : Str) (tc : Tok) (ln : Int) (tl : Tok) (c : Nat) (t : Tok) (cs : Chs) (n : Nat) (hc : c = 32 ∨ c = 10) (hl : cs.length < 900000) :
    LP w gt2 x y (gtF w.params x y acc ta ch tc) ln tl ((c, t) :: cs) n acc (ln + sepLn c) cs := by
  rcases hc with rfl | rfl
  · rw [show sepLn 32 = 0 from rfl, Int.add_zero]
    exact c_bare_sp w x y acc ta ch tc ln tl t cs n (chs_le (by omega))
  · exact c_bare_nl w x y acc ta ch tc ln tl t cs n (chs_le (by omega))
/-- a bare word from its second sign on -/
theorem bare_rest (w : World) (x : LX) (y : GX) (c : Nat) (u : Spl) (ta : Tok) (ch : Str) (tc : Tok) (ln ln2 : Int) (tl : Tok) (cs : Chs) (n : Nat) (s : Nat) (rest : Chs) (hs : s = 32 ∨ s = 10) (hu : Bare u) (hp : Pre (u.txt ++ [s]) cs rest)
    (hl : cs.length + 1 < 900000) (he : ln2 = ln + nls u.wrd + sepLn s) : LP w gt2 x y (gtF w.params x y (nilS ++ one c) ta ch tc) ln tl cs n (S (c :: u.wrd)) ln2 rest := by
  obtain ⟨m, hp1, t2, r, rfl, rfl⟩ := Pre.app.mp hp
  clear hp
  have hp := hp1
  have hl2 := hp.len
  rw [List.length_cons] at hl2
  rw [nil_str, he, ← one_S]
  refine bare_run w x y _ u (one c) ta ch tc ln tl cs n hu hp (by omega) (by show 1 + _ < _; omega) fun ta ch tc tl n => ?_
  exact bare_end w x y _ ta ch tc _ tl s t2 r n hs (by omega)
/-- a bare word that begins with a plain sign -/
theorem gt_bare (w : World) (x : LX) (ln : Int) (c : Nat) (u : Spl) (s : Nat) (cs rest : Chs) (hs : s = 32 ∨ s = 10) (h0 : c ≠ 0) (hw : c ∉ [10, 9, 13, 32]) (hq : c ≠ 34) (hb : c ≠ 92) (hu : Bare u) (hp : Pre (c :: (u.txt ++ [s])) cs rest) (hl : cs.length < 900000) :
    GT w x ln cs (S (c :: u.wrd)) (ln + nls u.wrd + sepLn s) rest := by
  intro tl n
  obtain ⟨t, cs', rfl, hp⟩ := hp
  rw [List.length_cons] at hl
  obtain ⟨c, rfl⟩ := Nat.exists_eq_succ_of_ne_zero h0
  exact c_gt w x ln _ tl _ _ n _ fun y ta => c_o3_b w x y ta ln _ tl c t cs' rest n _ (chs_le (by omega)) hw hq hb (hw_nn hw) fun b ta' => bare_rest w x (y.at b) (c + 1) u ta' _ t ln _ tl cs' _ s rest hs hu hp hl rfl
/-- a bare word that begins with a backslash -/
theorem gt_esc (w : World) (x : LX) (ln : Int) (c : Nat) (u : Spl) (s : Nat) (cs rest : Chs) (hs : s = 32 ∨ s = 10) (h0 : c ≠ 0) (hu : Bare u) (hp : Pre (92 :: c :: (u.txt ++ [s])) cs rest) (hl : cs.length < 900000) :
    GT w x ln cs (S (c :: u.wrd)) (ln + nls (c :: u.wrd) + sepLn s) rest := by
  intro tl n
  obtain ⟨t, cs', rfl, t', cs2, rfl, hp⟩ := hp
  rw [List.length_cons, List.length_cons] at hl
  obtain ⟨c, rfl⟩ := Nat.exists_eq_succ_of_ne_zero h0
  by_cases hn : c + 1 = 10
  · obtain rfl : c = 9 := by omega
    refine c_gt w x ln _ tl _ _ n _ fun y ta => c_o3_eN w x y ta ln _ tl t t' cs2 rest n _ (chs_le (by rw [List.length_cons]; omega)) (chs_le (by omega)) fun b ta' tl' => bare_rest w x (y.at b) 10 u ta' _ t' (ln + 1) _ tl' cs2 _ s rest hs hu hp (by omega) ?_
    rw [show (9 : Nat).succ = 10 from rfl, nls_ten]
    omega
  · refine c_gt w x ln _ tl _ _ n _ fun y ta => c_o3_e w x y ta ln _ tl c t t' cs2 rest n _ (chs_le (by rw [List.length_cons]; omega)) (chs_le (by omega)) hn fun b ta' => bare_rest w x (y.at b) (c + 1) u ta' _ t' ln _ tl cs2 _ s rest hs hu hp (by omega) ?_
    rw [show c.succ = c + 1 from rfl, nls_ne _ hn]
/-- the same behind a line's end -/
theorem gt_nlbare (w : World) (x : LX) (ln : Int) (c : Nat) (u : Spl) (s : Nat) (cs rest : Chs) (hs : s = 32 ∨ s = 10) (h0 : c ≠ 0) (hw : c ∉ [10, 9, 13, 32]) (hq : c ≠ 34) (hb : c ≠ 92) (hu : Bare u) (hp : Pre (10 :: c :: (u.txt ++ [s])) cs rest) (hl : cs.length < 900000) :
    GT w x ln cs (S (c :: u.wrd)) (ln + 1 + nls u.wrd + sepLn s) rest := by
  intro tl n
  obtain ⟨t, cs', rfl, t', cs2, rfl, hp⟩ := hp
  rw [List.length_cons, List.length_cons] at hl
  obtain ⟨c, rfl⟩ := Nat.exists_eq_succ_of_ne_zero h0
  exact c_gt w x ln _ tl _ _ n _ fun y ta => c_o3_nl w x y ta ln tl t _ n (chs_le (by rw [List.length_cons]; omega)) fun b tl' =>
    c_o4_b w x (y.at b) ta _ t (ln + 1) _ tl' c t' cs2 rest _ _ (chs_le (by omega)) hw hq hb (hw_nn hw) fun ta' => bare_rest w x (y.at b) (c + 1) u ta' _ t' (ln + 1) _ tl' cs2 _ s rest hs hu hp (by omega) rfl
/-- a bare word that the text's end ends -/
theorem bare_restE (w : World) (x : LX) (y : GX) (c : Nat) (u : Spl) (ta : Tok) (ch : Str) (tc : Tok) (ln ln2 : Int) (tl : Tok) (cs : Chs) (n : Nat) (hu : Bare u) (hp : Pre u.txt cs []) (hl : cs.length + 1 < 900000) (he : ln2 = ln + nls u.wrd) :
    LG w gt2 x y (gtF w.params x y (nilS ++ one c) ta ch tc) ln tl cs n (fun _ : EOut => .ok .next) (eFs w.params x y (S (c :: u.wrd)) ln2) (fun _ => True) := by
  rw [nil_str, he, ← one_S]
  exact bare_run w x y _ u (one c) ta ch tc ln tl cs n hu hp (by omega) (by show 1 + _ < _; omega) fun ta ch tc tl n => c_bare_eof w x y _ ta ch tc _ tl n
theorem gt_bareE (w : World) (x : LX) (ln : Int) (c : Nat) (u : Spl) (cs : Chs) (h0 : c ≠ 0) (hw : c ∉ [10, 9, 13, 32]) (hq : c ≠ 34) (hb : c ≠ 92) (hu : Bare u) (hp : Pre (c :: u.txt) cs []) (hl : cs.length < 900000) : GT w x ln cs (S (c :: u.wrd)) (ln + nls u.wrd) [] := by
  intro tl n
  obtain ⟨t, cs', rfl, hp⟩ := hp
  rw [List.length_cons] at hl
  obtain ⟨c, rfl⟩ := Nat.exists_eq_succ_of_ne_zero h0
  exact c_gtE w x ln _ tl _ n _ fun y ta => c_o3_bE w x y ta ln _ tl c t cs' n _ (chs_le (by omega)) hw hq hb (hw_nn hw) fun b ta' => bare_restE w x (y.at b) (c + 1) u ta' _ t ln _ tl cs' _ hu hp hl rfl
theorem gt_nlbareE (w : World) (x : LX) (ln : Int) (c : Nat) (u : Spl) (cs : Chs) (h0 : c ≠ 0) (hw : c ∉ [10, 9, 13, 32]) (hq : c ≠ 34) (hb : c ≠ 92) (hu : Bare u) (hp : Pre (10 :: c :: u.txt) cs []) (hl : cs.length < 900000) : GT w x ln cs (S (c :: u.wrd)) (ln + 1 + nls u.wrd) [] := by
  intro tl n
  obtain ⟨t, cs', rfl, t', cs2, rfl, hp⟩ := hp
  rw [List.length_cons, List.length_cons] at hl
  obtain ⟨c, rfl⟩ := Nat.exists_eq_succ_of_ne_zero h0
  exact c_gtE w x ln _ tl _ n _ fun y ta => c_o3_nl w x y ta ln tl t _ n (chs_le (by rw [List.length_cons]; omega)) fun b tl' =>
    c_o4_bE w x (y.at b) ta _ t (ln + 1) _ tl' c t' cs2 _ _ (chs_le (by omega)) hw hq hb (hw_nn hw) fun ta' => bare_restE w x (y.at b) (c + 1) u ta' _ t' (ln + 1) _ tl' cs2 _ hu hp (by omega) rfl
end Mine
end
set_option maxHeartbeats 1000000
noncomputable section
namespace Mine
/-! ## the loop of _law_read -/
noncomputable def whT : Stmt → Expr
  | .While t .. => t
  | _ => .Constant .none 0 ⟨0, 0, 0, 0⟩
noncomputable def whB : Stmt → List Stmt
  | .While _ b _ _ => b
  | _ => []
noncomputable def lrS : Stmt := stm 9
noncomputable def lrQ : Str := S [95,108,97,119,95,114,101,97,100]
noncomputable def lrE (L cl : Addr) : Env := envD (scoOf lrS) lrQ L 127 [(sLeft, cl)] (.ref 126)
noncomputable def wlS : Stmt := (bodOf lrS).getD 8 nop
noncomputable def wlC (L cl : Addr) : Code := .whileLoop (whT wlS) (whB wlS) [] (lrE L cl)
noncomputable def kUA : Str := S [85,115,101,114,45,97,103,101,110,116,58]
noncomputable def kCD : Str := S [67,114,97,119,108,45,100,101,108,97,121,58]
noncomputable def kRR : Str := S [82,101,113,117,101,115,116,45,114,97,116,101,58]
noncomputable def kAL : Str := S [65,108,108,111,119,58]
structure WX where
  (L rs : Addr)
  (b1 b2 b3 b4 b5 b6 b7 : Tok)
  page : Str
  pt : Tok
noncomputable def wlF (P : Params) (x : LX) (y : WX) (rec : Addr) (key : Str) (kt : Tok) (es : List DictEntry) (m : Nat) : Obj :=
  fra (nt P k_text y.b1 (.str y.page y.pt) :: nt P k_read y.b2 (.ref x.rd) :: nt P k_stream y.b3 (.ref x.fn) :: nt P k_lexer y.b4 (.ref x.lx) :: nt P k_records y.b5 (.ref y.rs) :: nt P k_record y.b6 (.ref rec) :: nt P k_key y.b7 (.str key kt) :: es) m
noncomputable def wFs (P : Params) (x : LX) (y : WX) (fo : Obj) (rvs : List Value) (rn : Nat) (rec ag : Addr) (dv rv : Value) (avs : List Value) (an : Nat) (ln : Int) (tl : Tok) (cs : Chs) (n : Nat) : Facts :=
  (y.L, fo) :: (y.rs, lst rvs rn) :: (rec, lst [.ref ag, dv, rv] 0) :: (ag, lst avs an) :: x.fs P ln tl cs n
noncomputable abbrev LW {β : Type} (w : World) (x : LX) (y : WX) (fo : Obj) (rvs : List Value) (rn : Nat) (rec ag : Addr) (dv rv : Value) (avs : List Value) (an : Nat) (ln : Int) (tl : Tok) (cs : Chs) (n : Nat) (res : β → Result) (fs2 : β → Facts) (X : β → Prop) : Prop :=
  LCon pw w (G w.params) 20 (wlC y.L x.cl) (wFs w.params x y fo rvs rn rec ag dv rv avs an ln tl cs n) res fs2 X
theorem c_w_ua {β : Type} {res : β → Result} {fs2 : β → Facts} {X : β → Prop} (w : World) (x : LX) (y : WX) (es : List DictEntry) (m : Nat) (kt : Tok) (rvs : List Value) (rn : Nat) (rec ag : Addr) (dv rv : Value) (avs : List Value) (an : Nat) (ln ln1 ln2 : Int) (tl : Tok) (cs cs1 cs2 : Chs) (n : Nat) (tok key : Str)
    (ha : avs.length ≤ sizeLine) (Tw : GT w x ln cs tok ln1 cs1) (Tk : GT w x ln1 cs1 key ln2 cs2)
    (IH : ∀ (kt t tl : Tok) (n : Nat), LW w x y (wlF w.params x y rec key kt es m) rvs rn rec ag dv rv (avs ++ [.str tok t]) (an + 1) ln2 tl cs2 n res fs2 X) :
    LW w x y (wlF w.params x y rec kUA kt es m) rvs rn rec ag dv rv avs an ln tl cs n res fs2 X := by
  refine lcon_in rfl fun A hA hA1 h sz tk g d os D E0 => ?_
  refine gu (c_lin4 sz 0 kUA kt kUA kCD kRR kAL tk (tk + 1) (tk + 2) (tk + 3) true (of_decide_eq_true (id (Eq.refl true)))) [1,14,14] [(y.1, wlF w.params x y rec kUA kt es m), (y.2, lst rvs rn), (rec, lst [.ref ag, dv, rv] 0), (ag, lst avs an), (x.1, ({ cls := .ref 59, dict := some x.ld })), (x.2, lexD w.params x ln tl), (x.3, ({ cls := .type "function", dict := some x.fd, data := Data.func x.dt })), (x.4, dic [nt w.params k_read x.a6 (.ref x.rd)] 1), (x.5, rdO x.cl x.ct x.cd), (x.8, cdO x.v0 rdQ x.a7 x.vs), (x.6, cel (.ref x.lf)), (x.9, lst (chs cs) n), (x.10, lst [] 0), (sz, lst [(.str (S [85, 115, 101, 114, 45, 97, 103, 101, 110, 116, 58]) tk), (.str (S [67, 114, 97, 119, 108, 45, 100, 101, 108, 97, 121, 58]) (tk + 1)), (.str (S [82, 101, 113, 117, 101, 115, 116, 45, 114, 97, 116, 101, 58]) (tk + 2)), (.str (S [65, 108, 108, 111, 119, 58]) (tk + 3))] 0)] (sz + 1) (tk + 4) [13] (hA.le (by decide)) D E0 (by kernel_rfl) ⟨by decide, by kernel_rfl, rfl⟩ (fun _ => rfl) fun r1 h1 sz1 tk1 hX1 D1 E1 => ?_
  refine gu (LCon.con (Tw tl n)) [1,0,0,1,3,3,3,0,3,0,3,4,4,4,4,1,5,0,0,0,5,0,0,0,5,0,0,0,0,5,6,0] [(y.1, wlF w.params x y rec kUA kt es m), (y.2, lst rvs rn), (rec, lst [.ref ag, dv, rv] 0), (ag, lst avs an), (x.1, ({ cls := .ref 59, dict := some x.ld })), (x.2, lexD w.params x ln tl), (x.3, ({ cls := .type "function", dict := some x.fd, data := Data.func x.dt })), (x.4, dic [nt w.params k_read x.a6 (.ref x.rd)] 1), (x.5, rdO x.cl x.ct x.cd), (x.8, cdO x.v0 rdQ x.a7 x.vs), (x.6, cel (.ref x.lf)), (x.9, lst (chs cs) n), (x.10, lst [] 0), (sz, lst [.str kUA tk, .str kCD (tk + 1), .str kRR (tk + 2), .str kAL (tk + 3)] 0)] sz1 (tk1 + 2) [4,5,6,7,8,9,10,11,12] (hA.le (by decide)) D1 E1 (by generalize w = w'; revert w'; exact tw_fa (by kernel_rfl) (by kernel_rfl)) ⟨by decide, by kernel_rfl, rfl⟩ (fun _ => rfl) fun o2 h2 sz2 tk2 hX2 D2 E2 => ?_
  refine gu (c_append ag (.str tok o2.t) avs an ha) [] [(y.1, wlF w.params x y rec kUA kt es m), (y.2, lst rvs rn), (rec, lst [.ref ag, dv, rv] 0), (ag, lst avs an), (x.1, ({ cls := .ref 59, dict := some x.ld })), (x.2, lexD w.params x ln1 o2.tl), (x.3, ({ cls := .type "function", dict := some x.fd, data := Data.func x.dt })), (x.4, dic [nt w.params k_read x.a6 (.ref x.rd)] 1), (x.5, rdO x.cl x.ct x.cd), (x.8, cdO x.v0 rdQ x.a7 x.vs), (x.6, cel (.ref x.lf)), (x.9, lst (chs cs1) o2.n), (x.10, lst [] 0), (sz, lst [.str kUA tk, .str kCD (tk + 1), .str kRR (tk + 2), .str kAL (tk + 3)] 0)] sz2 tk2 [3] (hA.le (by decide)) D2 E2 (by generalize w = w'; revert w'; exact tw_fa (by kernel_rfl) (by kernel_rfl)) ⟨by decide, by kernel_rfl, rfl⟩ (fun _ => rfl) fun r3 h3 sz3 tk3 hX3 D3 E3 => ?_
  refine gu (LCon.con (Tk o2.tl o2.n)) [1,5,0,0,0,5,0,0,0,5,0,0,0,0,5,6,0] [(y.1, wlF w.params x y rec kUA kt es m), (y.2, lst rvs rn), (rec, lst [.ref ag, dv, rv] 0), (ag, lst (avs ++ [.str tok o2.t]) (an + 1)), (x.1, ({ cls := .ref 59, dict := some x.ld })), (x.2, lexD w.params x ln1 o2.tl), (x.3, ({ cls := .type "function", dict := some x.fd, data := Data.func x.dt })), (x.4, dic [nt w.params k_read x.a6 (.ref x.rd)] 1), (x.5, rdO x.cl x.ct x.cd), (x.8, cdO x.v0 rdQ x.a7 x.vs), (x.6, cel (.ref x.lf)), (x.9, lst (chs cs1) o2.n), (x.10, lst [] 0), (sz, lst [.str kUA tk, .str kCD (tk + 1), .str kRR (tk + 2), .str kAL (tk + 3)] 0)] sz3 tk3 [4,5,6,7,8,9,10,11,12] (hA.le (by decide)) D3 E3 (by generalize w = w'; revert w'; exact tw_fa (by kernel_rfl) (by kernel_rfl)) ⟨by decide, by kernel_rfl, rfl⟩ (fun _ => rfl) fun o4 h4 sz4 tk4 hX4 D4 E4 => ?_
  exact ga (IH o4.t o2.t o4.tl o4.n) [1,1] [0,1,2,3,4,5,6,7,8,9,10,11,12] hA (hA1.le (by decide)) D4 E4 (by generalize w = w'; revert w'; exact tw_fa (by kernel_rfl) (by kernel_rfl)) (by decide) rfl
theorem c_w_cd {β : Type} {res : β → Result} {fs2 : β → Facts} {X : β → Prop} (w : World) (x : LX) (y : WX) (es : List DictEntry) (m : Nat) (kt : Tok) (rvs : List Value) (rn : Nat) (rec ag : Addr) (dv : Value) (avs : List Value) (an : Nat) (ln ln1 ln2 : Int) (tl : Tok) (cs cs1 cs2 : Chs) (n : Nat) (tok key : Str) (N : Int)
    (hN : PySem.intText? tok = some N) (hl : tok.length ≤ 640) (Tw : GT w x ln cs tok ln1 cs1) (Tk : GT w x ln1 cs1 key ln2 cs2)
    (IH : ∀ (rec : Addr) (kt t tl : Tok) (n : Nat), LW w x y (wlF w.params x y rec key kt es m) rvs rn rec ag (.int N t) .none avs an ln2 tl cs2 n res fs2 X) :
    LW w x y (wlF w.params x y rec kCD kt es m) rvs rn rec ag dv .none avs an ln tl cs n res fs2 X := by
  refine lcon_in rfl fun A hA hA1 h sz tk g d os D E0 => ?_
  refine gu (c_lin4 sz 0 kCD kt kUA kCD kRR kAL tk (tk + 1) (tk + 2) (tk + 3) true (of_decide_eq_true (id (Eq.refl true)))) [1,14,14] [(y.1, wlF w.params x y rec kCD kt es m), (y.2, lst rvs rn), (rec, lst [.ref ag, dv, .none] 0), (ag, lst avs an), (x.1, ({ cls := .ref 59, dict := some x.ld })), (x.2, lexD w.params x ln tl), (x.3, ({ cls := .type "function", dict := some x.fd, data := Data.func x.dt })), (x.4, dic [nt w.params k_read x.a6 (.ref x.rd)] 1), (x.5, rdO x.cl x.ct x.cd), (x.8, cdO x.v0 rdQ x.a7 x.vs), (x.6, cel (.ref x.lf)), (x.9, lst (chs cs) n), (x.10, lst [] 0), (sz, lst [(.str (S [85, 115, 101, 114, 45, 97, 103, 101, 110, 116, 58]) tk), (.str (S [67, 114, 97, 119, 108, 45, 100, 101, 108, 97, 121, 58]) (tk + 1)), (.str (S [82, 101, 113, 117, 101, 115, 116, 45, 114, 97, 116, 101, 58]) (tk + 2)), (.str (S [65, 108, 108, 111, 119, 58]) (tk + 3))] 0)] (sz + 1) (tk + 4) [13] (hA.le (by decide)) D E0 (by kernel_rfl) ⟨by decide, by kernel_rfl, rfl⟩ (fun _ => rfl) fun r1 h1 sz1 tk1 hX1 D1 E1 => ?_
  refine gu (LCon.con (Tw tl n)) [1,0,0,1,0,0,1,3,3,3,0,3,0,3,0,0,1,5,0,0,0,5,0,0,0,5,0,0,0,0,5,6,0] [(y.1, wlF w.params x y rec kCD kt es m), (y.2, lst rvs rn), (rec, lst [.ref ag, dv, .none] 0), (ag, lst avs an), (x.1, ({ cls := .ref 59, dict := some x.ld })), (x.2, lexD w.params x ln tl), (x.3, ({ cls := .type "function", dict := some x.fd, data := Data.func x.dt })), (x.4, dic [nt w.params k_read x.a6 (.ref x.rd)] 1), (x.5, rdO x.cl x.ct x.cd), (x.8, cdO x.v0 rdQ x.a7 x.vs), (x.6, cel (.ref x.lf)), (x.9, lst (chs cs) n), (x.10, lst [] 0), (sz, lst [.str kUA tk, .str kCD (tk + 1), .str kRR (tk + 2), .str kAL (tk + 3)] 0)] sz1 (tk1 + 3) [4,5,6,7,8,9,10,11,12] (hA.le (by decide)) D1 E1 (by generalize w = w'; revert w'; exact tw_fa (by kernel_rfl) (by kernel_rfl)) ⟨by decide, by kernel_rfl, rfl⟩ (fun _ => rfl) fun o2 h2 sz2 tk2 hX2 D2 E2 => ?_
  refine gu (c_int tok o2.t N hN hl) [] [(y.1, wlF w.params x y rec kCD kt es m), (y.2, lst rvs rn), (rec, lst [.ref ag, dv, .none] 0), (ag, lst avs an), (x.1, ({ cls := .ref 59, dict := some x.ld })), (x.2, lexD w.params x ln1 o2.tl), (x.3, ({ cls := .type "function", dict := some x.fd, data := Data.func x.dt })), (x.4, dic [nt w.params k_read x.a6 (.ref x.rd)] 1), (x.5, rdO x.cl x.ct x.cd), (x.8, cdO x.v0 rdQ x.a7 x.vs), (x.6, cel (.ref x.lf)), (x.9, lst (chs cs1) o2.n), (x.10, lst [] 0), (sz, lst [.str kUA tk, .str kCD (tk + 1), .str kRR (tk + 2), .str kAL (tk + 3)] 0)] sz2 tk2 [] (hA.le (by decide)) D2 E2 (by generalize w = w'; revert w'; exact tw_fa (by kernel_rfl) (by kernel_rfl)) ⟨by decide, by kernel_rfl, rfl⟩ (fun _ => rfl) fun t3 h3 sz3 tk3 hX3 D3 E3 => ?_
  refine gu (LCon.con (Tk o2.tl o2.n)) [1,3,3,3,0,3,0,3,1,1,1,5,0,0,0,5,0,0,0,5,0,0,0,0,5,6,0] [(y.1, fra (nt w.params k_text y.3 (.str (y.page) y.11) :: nt w.params k_read y.4 (.ref x.5) :: nt w.params k_stream y.5 (.ref x.3) :: nt w.params k_lexer y.6 (.ref x.1) :: nt w.params k_records y.7 (.ref y.2) :: nt w.params k_record y.8 (.ref sz3) :: nt w.params k_key y.9 (.str (S [67, 114, 97, 119, 108, 45, 100, 101, 108, 97, 121, 58]) kt) :: es) m), (y.2, lst rvs rn), (rec, lst [.ref ag, dv, .none] 0), (ag, lst avs an), (x.1, ({ cls := .ref 59, dict := some x.ld })), (x.2, lexD w.params x ln1 o2.tl), (x.3, ({ cls := .type "function", dict := some x.fd, data := Data.func x.dt })), (x.4, dic [nt w.params k_read x.a6 (.ref x.rd)] 1), (x.5, rdO x.cl x.ct x.cd), (x.8, cdO x.v0 rdQ x.a7 x.vs), (x.6, cel (.ref x.lf)), (x.9, lst (chs cs1) o2.n), (x.10, lst [] 0), (sz, lst [.str kUA tk, .str kCD (tk + 1), .str kRR (tk + 2), .str kAL (tk + 3)] 0), (sz3, lst [(.ref ag), (.int (N) t3), .none] 0)] (sz3 + 1) (tk3 + 2) [4,5,6,7,8,9,10,11,12] (hA.le (by decide)) D3 E3 (by generalize w = w'; revert w'; exact tw_fa (by kernel_rfl) (by kernel_rfl)) ⟨by decide, by kernel_rfl, rfl⟩ (fun _ => rfl) fun o4 h4 sz4 tk4 hX4 D4 E4 => ?_
  exact ga (IH sz3 o4.t t3 o4.tl o4.n) [1,1] [0,1,14,3,4,5,6,7,8,9,10,11,12] hA (hA1.le (by decide)) D4 E4 (by generalize w = w'; revert w'; exact tw_fa (by kernel_rfl) (by kernel_rfl)) (by decide) rfl
structure WOut where
  (kt tl : Tok)
  (rc ag : Addr)
  rvs : List Value
  (rn n m : Nat)
  es : List DictEntry
  T : Facts
noncomputable def wEnd (P : Params) (x : LX) (y : WX) (ln : Int) (o : WOut) : Facts :=
  wFs P x y (wlF P x y o.rc nilS o.kt o.es o.m) o.rvs o.rn o.rc o.ag .none .none [] 0 ln o.tl [] o.n ++ o.T
noncomputable def WOut.add (K : Facts) (o : WOut) : WOut := ⟨o.kt, o.tl, o.rc, o.ag, o.rvs, o.rn, o.n, o.m, o.es, o.T ++ K⟩
noncomputable abbrev LR (w : World) (x : LX) (y : WX) (fo : Obj) (rvs : List Value) (rn : Nat) (rec ag : Addr) (dv rv : Value) (avs : List Value) (an : Nat) (ln : Int) (tl : Tok) (cs : Chs) (n : Nat) (lnF : Int) (X : WOut → Prop) : Prop :=
  LW w x y fo rvs rn rec ag dv rv avs an ln tl cs n (fun _ : WOut => .ok .next) (wEnd w.params x y lnF) X
/-- the rate: three further names -/
theorem c_w_rr (w : World) (x : LX) (y : WX) (kt : Tok) (rvs : List Value) (rn : Nat) (rec ag : Addr) (N : Int) (tN : Tok) (rv : Value) (avs : List Value) (an : Nat) (ln ln1 ln2 lnF : Int) (tl : Tok) (cs cs1 cs2 : Chs) (n : Nat) (key : Str) (X : WOut → Prop)
    (Tw : GT w x ln cs (S [51, 47, 52]) ln1 cs1) (Tk : GT w x ln1 cs1 key ln2 cs2)
    (IH : ∀ (es : List DictEntry) (m : Nat) (rec tp : Addr) (kt t3 t4 tl : Tok) (n : Nat), LR w x y (wlF w.params x y rec key kt es m) rvs rn rec ag (.int N tN) (.ref tp) avs an ln2 tl cs2 n lnF (fun o => X (o.add [(tp, tup [.int 3 t3, .int 4 t4])]))) :
    LR w x y (wlF w.params x y rec kRR kt [] 7) rvs rn rec ag (.int N tN) rv avs an ln tl cs n lnF X := by
  refine lcon_in rfl fun A hA hA1 h sz tk g d os D E0 => ?_
  refine gu (c_lin4 sz 0 kRR kt kUA kCD kRR kAL tk (tk + 1) (tk + 2) (tk + 3) true (of_decide_eq_true (id (Eq.refl true)))) [1,14,14] [(y.1, wlF w.params x y rec kRR kt [] 7), (y.2, lst rvs rn), (rec, lst [.ref ag, .int N tN, rv] 0), (ag, lst avs an), (x.1, ({ cls := .ref 59, dict := some x.ld })), (x.2, lexD w.params x ln tl), (x.3, ({ cls := .type "function", dict := some x.fd, data := Data.func x.dt })), (x.4, dic [nt w.params k_read x.a6 (.ref x.rd)] 1), (x.5, rdO x.cl x.ct x.cd), (x.8, cdO x.v0 rdQ x.a7 x.vs), (x.6, cel (.ref x.lf)), (x.9, lst (chs cs) n), (x.10, lst [] 0), (sz, lst [(.str (S [85, 115, 101, 114, 45, 97, 103, 101, 110, 116, 58]) tk), (.str (S [67, 114, 97, 119, 108, 45, 100, 101, 108, 97, 121, 58]) (tk + 1)), (.str (S [82, 101, 113, 117, 101, 115, 116, 45, 114, 97, 116, 101, 58]) (tk + 2)), (.str (S [65, 108, 108, 111, 119, 58]) (tk + 3))] 0)] (sz + 1) (tk + 4) [13] (hA.le (by decide)) D E0 (by kernel_rfl) ⟨by decide, by kernel_rfl, rfl⟩ (fun _ => rfl) fun r1 h1 sz1 tk1 hX1 D1 E1 => ?_
  refine gu (LCon.con (Tw tl n)) [1,0,0,1,0,0,1,0,0,1,5,0,0,0,5,0,0,0,5,0,0,0,0,5,6,0] [(y.1, wlF w.params x y rec kRR kt [] 7), (y.2, lst rvs rn), (rec, lst [.ref ag, .int N tN, rv] 0), (ag, lst avs an), (x.1, ({ cls := .ref 59, dict := some x.ld })), (x.2, lexD w.params x ln tl), (x.3, ({ cls := .type "function", dict := some x.fd, data := Data.func x.dt })), (x.4, dic [nt w.params k_read x.a6 (.ref x.rd)] 1), (x.5, rdO x.cl x.ct x.cd), (x.8, cdO x.v0 rdQ x.a7 x.vs), (x.6, cel (.ref x.lf)), (x.9, lst (chs cs) n), (x.10, lst [] 0), (sz, lst [.str kUA tk, .str kCD (tk + 1), .str kRR (tk + 2), .str kAL (tk + 3)] 0)] sz1 (tk1 + 3) [4,5,6,7,8,9,10,11,12] (hA.le (by decide)) D1 E1 (by generalize w = w'; revert w'; exact tw_fa (by kernel_rfl) (by kernel_rfl)) ⟨by decide, by kernel_rfl, rfl⟩ (fun _ => rfl) fun o2 h2 sz2 tk2 hX2 D2 E2 => ?_
  refine gu (LCon.con (Tk o2.tl o2.n)) [0,0,15,15,15,0,15,0,16,16,0,16,0,16,16,15,16,16,16,0,16,0,16,16,15,16,16,16,0,16,0,16,16,15,16,16,16,0,16,0,16,16,15,16,16,18,1,1,1,1,1,1,1,3,3,3,0,3,0,3,1,3,3,3,0,3,0,3,0,0,1,0,0,0,0,0,0,0,0,1,0,0,0,0,0,0,1,1,1,5,0,0,0,5,0,0,0,5,0,0,0,0,5,6,0] [(y.1, fra [nt w.params k_text y.3 (.str (y.page) y.11), nt w.params k_read y.4 (.ref x.5), nt w.params k_stream y.5 (.ref x.3), nt w.params k_lexer y.6 (.ref x.1), nt w.params k_records y.7 (.ref y.2), nt w.params k_record y.8 (.ref (sz2 + 5)), nt w.params k_key y.9 (.str (S [82, 101, 113, 117, 101, 115, 116, 45, 114, 97, 116, 101, 58]) kt), nt w.params k_requests (tk2 + 3) (.str (S [51]) (tk2 + 1)), nt w.params k_mark (tk2 + 4) (.str (S [47]) tk2), nt w.params k_seconds (tk2 + 5) (.str (S [52]) (tk2 + 2))] 10), (y.2, lst rvs rn), (rec, lst [.ref ag, .int N tN, rv] 0), (ag, lst avs an), (x.1, ({ cls := .ref 59, dict := some x.ld })), (x.2, lexD w.params x ln1 o2.tl), (x.3, ({ cls := .type "function", dict := some x.fd, data := Data.func x.dt })), (x.4, dic [nt w.params k_read x.a6 (.ref x.rd)] 1), (x.5, rdO x.cl x.ct x.cd), (x.8, cdO x.v0 rdQ x.a7 x.vs), (x.6, cel (.ref x.lf)), (x.9, lst (chs cs1) o2.n), (x.10, lst [] 0), (sz, lst [.str kUA tk, .str kCD (tk + 1), .str kRR (tk + 2), .str kAL (tk + 3)] 0), (sz2, tup [(.str (S [51]) (tk2 + 1)), (.str (S [47]) tk2), (.str (S [52]) (tk2 + 2))]), ((sz2 + 1), fld "tuple_iterator" [.none, (.int 3 0)]), ((sz2 + 2), tup []), ((sz2 + 3), fld "StopIteration" [(.ref (sz2 + 2)), .none, .none, .none, (.bool false), .none]), ((sz2 + 4), tup [(.int 3 (tk2 + 8)), (.int 4 (tk2 + 9))]), ((sz2 + 5), lst [(.ref ag), (.int (N) tN), (.ref (sz2 + 4))] 0)] (sz2 + 6) (tk2 + 11) [4,5,6,7,8,9,10,11,12] (hA.le (by decide)) D2 E2 (by generalize w = w'; revert w'; exact tw_fa (by kernel_rfl) (by kernel_rfl)) ⟨by decide, by kernel_rfl, rfl⟩ (fun _ => rfl) fun o4 h4 sz4 tk4 hX4 D4 E4 => ?_
  exact gak (IH [nt w.params k_requests (tk2 + 3) (.str (S [51]) (tk2 + 1)), nt w.params k_mark (tk2 + 4) (.str (S [47]) tk2), nt w.params k_seconds (tk2 + 5) (.str (S [52]) (tk2 + 2))] 10 (sz2 + 5) (sz2 + 4) o4.t (tk2 + 8) (tk2 + 9) o4.tl o4.n) ((WOut.add [(sz2 + 4, tup [.int 3 (tk2 + 8), .int 4 (tk2 + 9)])])) [1,1] [(y.1, fra [nt w.params k_text y.3 (.str (y.page) y.11), nt w.params k_read y.4 (.ref x.5), nt w.params k_stream y.5 (.ref x.3), nt w.params k_lexer y.6 (.ref x.1), nt w.params k_records y.7 (.ref y.2), nt w.params k_record y.8 (.ref (sz2 + 5)), nt w.params k_key y.9 (.str (key) o4.1), nt w.params k_requests (tk2 + 3) (.str (S [51]) (tk2 + 1)), nt w.params k_mark (tk2 + 4) (.str (S [47]) tk2), nt w.params k_seconds (tk2 + 5) (.str (S [52]) (tk2 + 2))] 10), (y.2, lst rvs rn), (rec, lst [.ref ag, .int N tN, rv] 0), (ag, lst avs an), (x.1, ({ cls := .ref 59, dict := some x.ld })), (x.2, lexD w.params x ln2 o4.tl), (x.3, ({ cls := .type "function", dict := some x.fd, data := Data.func x.dt })), (x.4, dic [nt w.params k_read x.a6 (.ref x.rd)] 1), (x.5, rdO x.cl x.ct x.cd), (x.8, cdO x.v0 rdQ x.a7 x.vs), (x.6, cel (.ref x.lf)), (x.9, lst (chs cs2) o4.n), (x.10, lst [] 0), (sz, lst [.str kUA tk, .str kCD (tk + 1), .str kRR (tk + 2), .str kAL (tk + 3)] 0), (sz2, tup [.str (S [51]) (tk2 + 1), .str (S [47]) tk2, .str (S [52]) (tk2 + 2)]), ((sz2 + 1), fld "tuple_iterator" [.none, .int 3 0]), ((sz2 + 2), tup []), ((sz2 + 3), fld "StopIteration" [.ref (sz2 + 2), .none, .none, .none, .bool false, .none]), ((sz2 + 4), tup [.int 3 (tk2 + 8), .int 4 (tk2 + 9)]), ((sz2 + 5), lst [.ref ag, .int N tN, .ref (sz2 + 4)] 0)] ([(sz2 + 4, tup [.int 3 (tk2 + 8), .int 4 (tk2 + 9)])]) [0,1,19,3,4,5,6,7,8,9,10,11,12] [18] hA (hA1.le (by decide)) D4 E4 (by generalize w = w'; revert w'; exact tw_fa (by kernel_rfl) (by kernel_rfl)) (by kernel_rfl) (by decide) (fun _ => (List.append_assoc _ _ _).symm) (fun _ => rfl) ((fun _ hx => hx)) rfl
/-- the record's end -/
theorem c_w_al (w : World) (x : LX) (y : WX) (es : List DictEntry) (m : Nat) (kt : Tok) (rvs : List Value) (rn : Nat) (rec ag : Addr) (dv rv : Value) (avs : List Value) (an : Nat) (ln ln2 lnF : Int) (tl : Tok) (cs cs2 : Chs) (n : Nat) (key : Str) (X : WOut → Prop)
    (hr : rvs.length ≤ sizeLine) (Tk : GT w x ln cs key ln2 cs2)
    (IH : ∀ (rec' ag' : Addr) (kt tl : Tok) (n : Nat), LR w x y (wlF w.params x y rec' key kt es m) (rvs ++ [.ref rec]) (rn + 1) rec' ag' .none .none [] 0 ln2 tl cs2 n lnF (fun o => X (o.add [(rec, lst [.ref ag, dv, rv] 0), (ag, lst avs an)]))) :
    LR w x y (wlF w.params x y rec kAL kt es m) rvs rn rec ag dv rv avs an ln tl cs n lnF X := by
  refine lcon_in rfl fun A hA hA1 h sz tk g d os D E0 => ?_
  refine gu (c_lin4 sz 0 kAL kt kUA kCD kRR kAL tk (tk + 1) (tk + 2) (tk + 3) true (of_decide_eq_true (id (Eq.refl true)))) [1,14,14] [(y.1, wlF w.params x y rec kAL kt es m), (y.2, lst rvs rn), (rec, lst [.ref ag, dv, rv] 0), (ag, lst avs an), (x.1, ({ cls := .ref 59, dict := some x.ld })), (x.2, lexD w.params x ln tl), (x.3, ({ cls := .type "function", dict := some x.fd, data := Data.func x.dt })), (x.4, dic [nt w.params k_read x.a6 (.ref x.rd)] 1), (x.5, rdO x.cl x.ct x.cd), (x.8, cdO x.v0 rdQ x.a7 x.vs), (x.6, cel (.ref x.lf)), (x.9, lst (chs cs) n), (x.10, lst [] 0), (sz, lst [(.str (S [85, 115, 101, 114, 45, 97, 103, 101, 110, 116, 58]) tk), (.str (S [67, 114, 97, 119, 108, 45, 100, 101, 108, 97, 121, 58]) (tk + 1)), (.str (S [82, 101, 113, 117, 101, 115, 116, 45, 114, 97, 116, 101, 58]) (tk + 2)), (.str (S [65, 108, 108, 111, 119, 58]) (tk + 3))] 0)] (sz + 1) (tk + 4) [13] (hA.le (by decide)) D E0 (by kernel_rfl) ⟨by decide, by kernel_rfl, rfl⟩ (fun _ => rfl) fun r1 h1 sz1 tk1 hX1 D1 E1 => ?_
  refine gu (c_append y.rs (.ref rec) rvs rn hr) [1,0,0,1,0,0,1,0,0,1,2,2,2,2,1] [(y.1, wlF w.params x y rec kAL kt es m), (y.2, lst rvs rn), (rec, lst [.ref ag, dv, rv] 0), (ag, lst avs an), (x.1, ({ cls := .ref 59, dict := some x.ld })), (x.2, lexD w.params x ln tl), (x.3, ({ cls := .type "function", dict := some x.fd, data := Data.func x.dt })), (x.4, dic [nt w.params k_read x.a6 (.ref x.rd)] 1), (x.5, rdO x.cl x.ct x.cd), (x.8, cdO x.v0 rdQ x.a7 x.vs), (x.6, cel (.ref x.lf)), (x.9, lst (chs cs) n), (x.10, lst [] 0), (sz, lst [.str kUA tk, .str kCD (tk + 1), .str kRR (tk + 2), .str kAL (tk + 3)] 0)] sz1 (tk1 + 3) [1] (hA.le (by decide)) D1 E1 (by generalize w = w'; revert w'; exact tw_fa (by kernel_rfl) (by kernel_rfl)) ⟨by decide, by kernel_rfl, rfl⟩ (fun _ => rfl) fun r3 h3 sz3 tk3 hX3 D3 E3 => ?_
  refine gu (LCon.con (Tk tl n)) [1,1,1,5,0,0,0,5,0,0,0,5,0,0,0,0,5,6,0] [(y.1, fra (nt w.params k_text y.3 (.str (y.page) y.11) :: nt w.params k_read y.4 (.ref x.5) :: nt w.params k_stream y.5 (.ref x.3) :: nt w.params k_lexer y.6 (.ref x.1) :: nt w.params k_records y.7 (.ref y.2) :: nt w.params k_record y.8 (.ref (sz3 + 1)) :: nt w.params k_key y.9 (.str (S [65, 108, 108, 111, 119, 58]) kt) :: es) m), (y.2, lst (rvs ++ [.ref rec]) (rn + 1)), (rec, lst [.ref ag, dv, rv] 0), (ag, lst avs an), (x.1, ({ cls := .ref 59, dict := some x.ld })), (x.2, lexD w.params x ln tl), (x.3, ({ cls := .type "function", dict := some x.fd, data := Data.func x.dt })), (x.4, dic [nt w.params k_read x.a6 (.ref x.rd)] 1), (x.5, rdO x.cl x.ct x.cd), (x.8, cdO x.v0 rdQ x.a7 x.vs), (x.6, cel (.ref x.lf)), (x.9, lst (chs cs) n), (x.10, lst [] 0), (sz, lst [.str kUA tk, .str kCD (tk + 1), .str kRR (tk + 2), .str kAL (tk + 3)] 0), (sz3, lst [] 0), ((sz3 + 1), lst [(.ref sz3), .none, .none] 0)] (sz3 + 2) (tk3 + 1) [4,5,6,7,8,9,10,11,12] (hA.le (by decide)) D3 E3 (by generalize w = w'; revert w'; exact tw_fa (by kernel_rfl) (by kernel_rfl)) ⟨by decide, by kernel_rfl, rfl⟩ (fun _ => rfl) fun o4 h4 sz4 tk4 hX4 D4 E4 => ?_
  exact gak (IH (sz3 + 1) sz3 o4.t o4.tl o4.n) ((WOut.add [(rec, lst [.ref ag, dv, rv] 0), (ag, lst avs an)])) [1,1] [(y.1, fra (nt w.params k_text y.3 (.str (y.page) y.11) :: nt w.params k_read y.4 (.ref x.5) :: nt w.params k_stream y.5 (.ref x.3) :: nt w.params k_lexer y.6 (.ref x.1) :: nt w.params k_records y.7 (.ref y.2) :: nt w.params k_record y.8 (.ref (sz3 + 1)) :: nt w.params k_key y.9 (.str (key) o4.1) :: es) m), (y.2, lst (rvs ++ [.ref rec]) (rn + 1)), (rec, lst [.ref ag, dv, rv] 0), (ag, lst avs an), (x.1, ({ cls := .ref 59, dict := some x.ld })), (x.2, lexD w.params x ln2 o4.tl), (x.3, ({ cls := .type "function", dict := some x.fd, data := Data.func x.dt })), (x.4, dic [nt w.params k_read x.a6 (.ref x.rd)] 1), (x.5, rdO x.cl x.ct x.cd), (x.8, cdO x.v0 rdQ x.a7 x.vs), (x.6, cel (.ref x.lf)), (x.9, lst (chs cs2) o4.n), (x.10, lst [] 0), (sz, lst [.str kUA tk, .str kCD (tk + 1), .str kRR (tk + 2), .str kAL (tk + 3)] 0), (sz3, lst [] 0), ((sz3 + 1), lst [.ref sz3, .none, .none] 0)] ([(rec, lst [.ref ag, dv, rv] 0), (ag, lst avs an)]) [0,1,15,14,4,5,6,7,8,9,10,11,12] [2,3] hA (hA1.le (by decide)) D4 E4 (by generalize w = w'; revert w'; exact tw_fa (by kernel_rfl) (by kernel_rfl)) (by kernel_rfl) (by decide) (fun _ => (List.append_assoc _ _ _).symm) (fun _ => rfl) ((fun _ hx => hx)) rfl
/-- no further token -/
theorem c_w_end (w : World) (x : LX) (y : WX) (es : List DictEntry) (m : Nat) (kt : Tok) (rvs : List Value) (rn : Nat) (rec ag : Addr) (ln : Int) (tl : Tok) (n : Nat) (X : WOut → Prop)
    (hX : X ⟨kt, tl, rec, ag, rvs, rn, n, m, es, []⟩) :
    LR w x y (wlF w.params x y rec nilS kt es m) rvs rn rec ag .none .none [] 0 ln tl [] n ln X := by
  refine lcon_in rfl fun A hA hA1 h sz tk g d os D E0 => ?_
  refine gu (c_lin4 sz 0 nilS kt kUA kCD kRR kAL tk (tk + 1) (tk + 2) (tk + 3) false (of_decide_eq_true (id (Eq.refl true)))) [1,14,14] [(y.1, wlF w.params x y rec nilS kt es m), (y.2, lst rvs rn), (rec, lst [.ref ag, .none, .none] 0), (ag, lst [] 0), (x.1, ({ cls := .ref 59, dict := some x.ld })), (x.2, lexD w.params x ln tl), (x.3, ({ cls := .type "function", dict := some x.fd, data := Data.func x.dt })), (x.4, dic [nt w.params k_read x.a6 (.ref x.rd)] 1), (x.5, rdO x.cl x.ct x.cd), (x.8, cdO x.v0 rdQ x.a7 x.vs), (x.6, cel (.ref x.lf)), (x.9, lst (chs []) n), (x.10, lst [] 0), (sz, lst [(.str (S [85, 115, 101, 114, 45, 97, 103, 101, 110, 116, 58]) tk), (.str (S [67, 114, 97, 119, 108, 45, 100, 101, 108, 97, 121, 58]) (tk + 1)), (.str (S [82, 101, 113, 117, 101, 115, 116, 45, 114, 97, 116, 101, 58]) (tk + 2)), (.str (S [65, 108, 108, 111, 119, 58]) (tk + 3))] 0)] (sz + 1) (tk + 4) [13] (hA.le (by decide)) D E0 (by kernel_rfl) ⟨by decide, by kernel_rfl, rfl⟩ (fun _ => rfl) fun r1 h1 sz1 tk1 hX1 D1 E1 => ?_
  exact gf ({ kt := kt, tl := tl, rc := rec, ag := ag, rvs := rvs, rn := rn, n := n, m := m, es := es, T := [] }) [] [0,1,2,3,4,5,6,7,8,9,10,11,12] hA D1 E1 (by kernel_rfl) (by decide) rfl (hX)
end Mine
end
set_option maxHeartbeats 1000000
noncomputable section
namespace Mine
/-! ## The page's text, and how it is read -/
theorem nls_app (a b : List Nat) : nls (a ++ b) = nls a + nls b := by
  unfold nls
  rw [List.count_append]
  simp
theorem nls_zero {l : List Nat} (h : 10 ∉ l) : nls l = 0 := by
  unfold nls
  rw [List.count_eq_zero.mpr h]
  rfl
/-- plain signs -/
noncomputable def pln (l : List Nat) : Spl := l.map fun c => (false, c)
theorem pln_txt : ∀ l : List Nat, (pln l).txt = l
  | [] => rfl
  | c :: l => congrArg (c :: ·) (pln_txt l)
theorem wrd_map (f : Nat → Bool) : ∀ l : List Nat, Spl.wrd (l.map fun c => (f c, c)) = l
  | [] => rfl
  | c :: l => congrArg (c :: ·) (wrd_map f l)
theorem pln_wrd (l : List Nat) : (pln l).wrd = l := wrd_map _ l
theorem pln_bare {l : List Nat} (h : ∀ c ∈ l, c ∉ [0, 10, 9, 13, 32, 92]) : Bare (pln l) := by
  intro p hp
  obtain ⟨c, hc, rfl⟩ := List.mem_map.mp hp
  have := h c hc
  simp only [List.mem_cons, List.not_mem_nil, or_false, not_or] at this ⊢
  exact ⟨this.1, fun _ => ⟨⟨this.2.1, this.2.2.1, this.2.2.2.1, this.2.2.2.2.1⟩, this.2.2.2.2.2⟩⟩
/-- the three spellings -/
noncomputable def sp0 (u : List Nat) : Spl := u.map fun c => (c == 34 || c == 92, c)
noncomputable def es1 (c : Nat) : Bool := c == 10 || c == 9 || c == 32 || c == 92
noncomputable def sp1 : List Nat → Spl
  | [] => []
  | c :: u => (es1 c || c == 34, c) :: u.map fun c => (es1 c, c)
noncomputable def sp2 (u : List Nat) : Spl := u.map fun c => (true, c)
noncomputable def spell (way : Nat) (u : List Nat) : List Nat :=
  if way = 0 ∨ u = [] then 34 :: ((sp0 u).txt ++ [34]) else if way = 1 then (sp1 u).txt else (sp2 u).txt
noncomputable def okc (c : Nat) : Prop := c ≠ 0 ∧ c ≠ 13
theorem nls_txt : ∀ u : Spl, nls u.txt = nls u.wrd
  | [] => rfl
  | (true, c) :: u => by
    show nls (92 :: c :: Spl.txt u) = nls (c :: Spl.wrd u)
    rw [nls_ne _ (by decide)]
    by_cases h : c = 10
    · subst h; rw [nls_ten, nls_ten, nls_txt u]
    · rw [nls_ne _ h, nls_ne _ h, nls_txt u]
  | (false, c) :: u => by
    show nls (c :: Spl.txt u) = nls (c :: Spl.wrd u)
    by_cases h : c = 10
    · subst h; rw [nls_ten, nls_ten, nls_txt u]
    · rw [nls_ne _ h, nls_ne _ h, nls_txt u]
theorem sp1_wrd (u : List Nat) : (sp1 u).wrd = u := by
  cases u with
  | nil => rfl
  | cons c u => exact congrArg (c :: ·) (wrd_map es1 u)
theorem nls_spell (way : Nat) (u : List Nat) : nls (spell way u) = nls u := by
  unfold spell
  split
  · rw [nls_ne _ (by decide), nls_app, nls_txt, show (sp0 u).wrd = u from wrd_map _ u]
    show nls u + 0 = nls u
    omega
  · split
    · rw [nls_txt, sp1_wrd]
    · rw [nls_txt, show (sp2 u).wrd = u from wrd_map _ u]
/-- a line's end that is still to come -/
noncomputable def pend : Bool → List Nat
  | true => [10]
  | false => []
noncomputable def pn : Bool → Int
  | true => 1
  | false => 0
theorem quo_sp0 {u : List Nat} (h : ∀ c ∈ u, okc c) : Quo (sp0 u) := by
  intro p hp
  obtain ⟨c, hc, rfl⟩ := List.mem_map.mp hp
  refine ⟨(h c hc).1, fun e => ?_, fun e e10 => ?_⟩
  · simp only [Bool.or_eq_false_iff, beq_eq_false_iff_ne, ne_eq] at e
    exact e
  · simp only at e10
    subst e10
    cases e
theorem bare_es1 {u : List Nat} (h : ∀ c ∈ u, okc c) : Bare (u.map fun c => (es1 c, c)) := by
  intro p hp
  obtain ⟨c, hc, rfl⟩ := List.mem_map.mp hp
  refine ⟨(h c hc).1, fun e => ?_⟩
  have e2 := (h c hc).2
  simp only [es1, Bool.or_eq_false_iff, beq_eq_false_iff_ne, ne_eq] at e
  simp only [List.mem_cons, List.not_mem_nil, or_false, not_or]
  exact ⟨⟨e.1.1.1, e.1.1.2, e2, e.1.2⟩, e.2⟩
theorem bare_sp2 {u : List Nat} (h : ∀ c ∈ u, okc c) : Bare (sp2 u) := by
  intro p hp
  obtain ⟨c, hc, rfl⟩ := List.mem_map.mp hp
  exact ⟨(h c hc).1, fun e => (nomatch e)⟩
/-- a word and its line's end -/
theorem word_gt (w : World) (x : LX) (ln : Int) (way : Nat) (u more : List Nat) (cs : Chs) (hu : ∀ c ∈ u, okc c) (hp : Pre (spell way u ++ 10 :: more) cs []) (hl : cs.length < 900000) :
    ∃ (p : Bool) (cs1 : Chs), GT w x ln cs (S u) (ln + nls u + 1 - pn p) cs1 ∧ Pre (pend p ++ more) cs1 [] ∧ cs1.length < 900000 := by
  obtain ⟨m, hp1, hp2⟩ := Pre.app.mp hp
  have hlm := hp1.len
  by_cases h0 : way = 0 ∨ u = []
  · refine ⟨true, m, ?_, hp2, by omega⟩
    rw [spell, if_pos h0] at hp1
    have := gt_quo w x ln (sp0 u) cs m (quo_sp0 hu) hp1 hl
    rw [show (sp0 u).wrd = u from wrd_map _ u] at this
    rw [show ln + nls u + 1 - pn true = ln + nls u from by show ln + nls u + 1 - 1 = _; omega]
    exact this
  · obtain ⟨t, cs1, rfl, hp2⟩ := hp2
    refine ⟨false, cs1, ?_, hp2, by rw [List.length_cons] at hlm; omega⟩
    rw [show ln + nls u + 1 - pn false = ln + nls u + 1 from by show ln + nls u + 1 - 0 = _; omega]
    rw [spell, if_neg h0] at hp1
    have hp3 : ∀ l, Pre l cs ((10, t) :: cs1) → Pre (l ++ [10]) cs cs1 := fun l hl => Pre.app.mpr ⟨_, hl, t, cs1, rfl, rfl⟩
    cases u with
    | nil => exact absurd (.inr rfl) h0
    | cons c u =>
      have hc := hu c (.head _)
      have hu' : ∀ c ∈ u, okc c := fun c h => hu c (.tail _ h)
      split at hp1
      · by_cases he : (es1 c || c == 34) = true
        · have q := hp3 _ hp1
          rw [show (sp1 (c :: u)).txt = 92 :: c :: Spl.txt (u.map fun c => (es1 c, c)) from by show Spl.txt ((es1 c || c == 34, c) :: _) = _; rw [he]; rfl] at q
          have := gt_esc w x ln c (u.map fun c => (es1 c, c)) 10 cs cs1 (.inr rfl) hc.1 (bare_es1 hu') q hl
          rw [wrd_map] at this
          exact this
        · have q := hp3 _ hp1
          simp only [Bool.not_eq_true] at he
          rw [show (sp1 (c :: u)).txt = c :: Spl.txt (u.map fun c => (es1 c, c)) from by show Spl.txt ((es1 c || c == 34, c) :: _) = _; rw [he]; rfl] at q
          simp only [es1, Bool.or_eq_false_iff, beq_eq_false_iff_ne, ne_eq] at he
          have := gt_bare w x ln c (u.map fun c => (es1 c, c)) 10 cs cs1 (.inr rfl) hc.1 (by
            simp only [List.mem_cons, List.not_mem_nil, or_false, not_or]
            exact ⟨he.1.1.1.1, he.1.1.1.2, hc.2, he.1.1.2⟩) he.2 he.1.2 (bare_es1 hu') q hl
          rw [wrd_map] at this
          rw [nls_ne _ he.1.1.1.1]
          exact this
      · have q := hp3 _ hp1
        have := gt_esc w x ln c (sp2 u) 10 cs cs1 (.inr rfl) hc.1 (bare_sp2 hu') q hl
        rw [show (sp2 u).wrd = u from wrd_map _ u] at this
        exact this
/-- a plain word and its line's end -/
theorem plain_gt (w : World) (x : LX) (ln : Int) (c : Nat) (u more : List Nat) (s : Nat) (cs : Chs) (hs : s = 32 ∨ s = 10) (hu : ∀ d ∈ c :: u, d ∉ [0, 10, 9, 13, 32, 92, 34]) (p : Bool) (hp : Pre (pend p ++ (c :: u ++ s :: more)) cs []) (hl : cs.length < 900000) :
    ∃ cs1, GT w x (ln - pn p) cs (S (c :: u)) (ln + sepLn s) cs1 ∧ Pre more cs1 [] ∧ cs1.length < 900000 := by
  have hc := hu c (.head _)
  simp only [List.mem_cons, List.not_mem_nil, or_false, not_or] at hc
  have hw : c ∉ [10, 9, 13, 32] := by
    simp only [List.mem_cons, List.not_mem_nil, or_false, not_or]
    exact ⟨hc.2.1, hc.2.2.1, hc.2.2.2.1, hc.2.2.2.2.1⟩
  have hb : Bare (pln u) := pln_bare fun d hd => by
    have := hu d (.tail _ hd)
    simp only [List.mem_cons, List.not_mem_nil, or_false, not_or] at this ⊢
    exact ⟨this.1, this.2.1, this.2.2.1, this.2.2.2.1, this.2.2.2.2.1, this.2.2.2.2.2.1⟩
  have hn : nls u = 0 := nls_zero fun h => by
    have := hu 10 (.tail _ h)
    simp at this
  have key : Pre (pend p ++ (c :: ((pln u).txt ++ [s]))) cs = Pre (pend p ++ (c :: (u ++ [s]))) cs := by rw [pln_txt]
  have e : pend p ++ (c :: u ++ s :: more) = (pend p ++ (c :: (u ++ [s]))) ++ more := by simp
  rw [e] at hp
  obtain ⟨m, hp1, hp2⟩ := Pre.app.mp hp
  refine ⟨m, ?_, hp2, by have := hp1.len; omega⟩
  rw [← key] at hp1
  cases p with
  | false =>
    have := gt_bare w x ln c (pln u) s cs m hs hc.1 hw hc.2.2.2.2.2.2 hc.2.2.2.2.2.1 hb hp1 hl
    rw [pln_wrd, hn, Int.add_zero] at this
    rw [show ln - pn false = ln from Int.sub_zero ln]
    exact this
  | true =>
    have := gt_nlbare w x (ln - 1) c (pln u) s cs m hs hc.1 hw hc.2.2.2.2.2.2 hc.2.2.2.2.2.1 hb hp1 hl
    rw [pln_wrd, hn, Int.add_zero, Int.sub_add_cancel] at this
    exact this
/-- a plain word at the text's end -/
theorem plain_gtE (w : World) (x : LX) (ln : Int) (c : Nat) (u : List Nat) (cs : Chs) (hu : ∀ d ∈ c :: u, d ∉ [0, 10, 9, 13, 32, 92, 34]) (p : Bool) (hp : Pre (pend p ++ (c :: u)) cs []) (hl : cs.length < 900000) :
    GT w x (ln - pn p) cs (S (c :: u)) ln [] := by
  have hc := hu c (.head _)
  simp only [List.mem_cons, List.not_mem_nil, or_false, not_or] at hc
  have hw : c ∉ [10, 9, 13, 32] := by
    simp only [List.mem_cons, List.not_mem_nil, or_false, not_or]
    exact ⟨hc.2.1, hc.2.2.1, hc.2.2.2.1, hc.2.2.2.2.1⟩
  have hb : Bare (pln u) := pln_bare fun d hd => by
    have := hu d (.tail _ hd)
    simp only [List.mem_cons, List.not_mem_nil, or_false, not_or] at this ⊢
    exact ⟨this.1, this.2.1, this.2.2.1, this.2.2.2.1, this.2.2.2.2.1, this.2.2.2.2.2.1⟩
  have hn : nls u = 0 := nls_zero fun h => by
    have := hu 10 (.tail _ h)
    simp at this
  have key : Pre (pend p ++ (c :: (pln u).txt)) cs = Pre (pend p ++ (c :: u)) cs := by rw [pln_txt]
  rw [← key] at hp
  cases p with
  | false =>
    have := gt_bareE w x ln c (pln u) cs hc.1 hw hc.2.2.2.2.2.2 hc.2.2.2.2.2.1 hb hp hl
    rw [pln_wrd, hn, Int.add_zero] at this
    rw [show ln - pn false = ln from Int.sub_zero ln]
    exact this
  | true =>
    have := gt_nlbareE w x (ln - 1) c (pln u) cs hc.1 hw hc.2.2.2.2.2.2 hc.2.2.2.2.2.1 hb hp hl
    rw [pln_wrd, hn, Int.add_zero, Int.sub_add_cancel] at this
    exact this
/-- a number's figures -/
noncomputable def dig (N : Nat) : List Nat := (Nat.toDigits 10 N).map Char.toNat
theorem dig_ok (N : Nat) : ∀ c ∈ dig N, 48 ≤ c ∧ c ≤ 57 := by
  intro c hc
  obtain ⟨ch, hch, e⟩ := List.mem_map.mp hc
  have r := digit_range (Nat.isDigit_of_mem_toDigits (by decide) (by decide) hch)
  rw [← e]
  exact r
theorem dig_ne (N : Nat) : dig N ≠ [] := by
  intro e
  have h := toDigits_len_ge 10 N
  rw [List.map_eq_nil_iff.mp e] at h
  exact absurd h (by decide)
theorem dig_str (N : Nat) : PySem.Str.ofString (toString ((N : Nat) : Int)) = S (dig N) := by
  have := KIN.signs_num N
  generalize PySem.Str.ofString (toString ((N : Nat) : Int)) = s at this
  obtain ⟨⟨l⟩⟩ := s
  exact congrArg S this
theorem dig_int {N : Nat} (h : N < 1000) : PySem.intText? (S (dig N)) = some (N : Int) ∧ (S (dig N)).length ≤ 640 := by
  rw [← dig_str]
  exact ⟨KIN.num_reads (by omega) (by omega), Nat.le_trans (KT.len_num (by omega) (by omega)) (by decide)⟩
end Mine
end
set_option maxHeartbeats 1000000
noncomputable section
namespace Mine
/-! ## The loop of _law_read over a page -/
inductive It where
  | ua (way : Nat) (u : List Nat)
  | cd (N : Nat)
  | rr
  | al
noncomputable def tUA : List Nat := [85,115,101,114,45,97,103,101,110,116,58]
noncomputable def tCD : List Nat := [67,114,97,119,108,45,100,101,108,97,121,58]
noncomputable def tRR : List Nat := [82,101,113,117,101,115,116,45,114,97,116,101,58]
noncomputable def tAL : List Nat := [65,108,108,111,119,58]
noncomputable def keyOf : List It → Str
  | [] => nilS
  | .ua _ _ :: _ => kUA
  | .cd _ :: _ => kCD
  | .rr :: _ => kRR
  | .al :: _ => kAL
noncomputable def keyT : List It → List Nat
  | [] => []
  | .ua _ _ :: _ => tUA ++ [32]
  | .cd _ :: _ => tCD ++ [32]
  | .rr :: _ => tRR ++ [32]
  | .al :: [] => tAL
  | .al :: _ :: _ => tAL ++ [10]
noncomputable def aft : List It → List Nat
  | [] => []
  | .ua way u :: its => spell way u ++ 10 :: (keyT its ++ aft its)
  | .cd N :: its => dig N ++ 10 :: (keyT its ++ aft its)
  | .rr :: its => [51, 47, 52] ++ 10 :: (keyT its ++ aft its)
  | .al :: [] => []
  | .al :: it :: its => 10 :: (keyT (it :: its) ++ aft (it :: its))
noncomputable def Wf : List It → Bool → Bool → Bool → Bool → Prop
  | [], _, _, _, fr => fr = true
  | .ua _ u :: its, b, di, rn, _ => (∀ c ∈ u, okc c) ∧ Wf its b di rn false
  | .cd N :: its, b, _, rn, _ => N < 1000 ∧ rn = true ∧ Wf its b true rn false
  | .rr :: its, b, di, _, _ => b = true ∧ di = true ∧ Wf its false di false false
  | .al :: its, b, _, _, _ => Wf its b false true true
noncomputable def readD : List It → List (List Nat) → PyData → PyData → List PyData
  | [], _, _, _ => []
  | .ua _ u :: its, ags, dd, rd => readD its (ags ++ [u]) dd rd
  | .cd N :: its, ags, _, rd => readD its ags (.int N) rd
  | .rr :: its, ags, dd, _ => readD its ags dd (.tuple [.int 3, .int 4])
  | .al :: its, ags, dd, rd => .list [.list (ags.map fun u => .str (S u)), dd, rd] :: readD its [] .none .none
theorem key_ok : ∀ {l : List Nat}, (l.all fun d => decide (d ∉ [0, 10, 9, 13, 32, 92, 34])) = true → ∀ d ∈ l, d ∉ [0, 10, 9, 13, 32, 92, 34] :=
  fun h d hd => of_decide_eq_true (List.all_eq_true.mp h d hd)
/-- the next key -/
theorem key_gt (w : World) (x : LX) (ln : Int) (its : List It) (p : Bool) (cs : Chs) (hi : its ≠ []) (hp : Pre (pend p ++ (keyT its ++ aft its)) cs []) (hl : cs.length < 900000) :
    ∃ cs2, GT w x (ln - pn p) cs (keyOf its) (ln + nls (keyT its)) cs2 ∧ Pre (aft its) cs2 [] ∧ cs2.length < 900000 := by
  match its, hi with
  | .ua way u :: its, _ =>
    have q : Pre (pend p ++ (85 :: [115,101,114,45,97,103,101,110,116,58] ++ 32 :: aft (.ua way u :: its))) cs [] := hp
    exact plain_gt w x ln 85 _ _ 32 cs (.inl rfl) (key_ok (by decide)) p q hl
  | .cd N :: its, _ =>
    have q : Pre (pend p ++ (67 :: [114,97,119,108,45,100,101,108,97,121,58] ++ 32 :: aft (.cd N :: its))) cs [] := hp
    exact plain_gt w x ln 67 _ _ 32 cs (.inl rfl) (key_ok (by decide)) p q hl
  | .rr :: its, _ =>
    have q : Pre (pend p ++ (82 :: [101,113,117,101,115,116,45,114,97,116,101,58] ++ 32 :: aft (.rr :: its))) cs [] := hp
    exact plain_gt w x ln 82 _ _ 32 cs (.inl rfl) (key_ok (by decide)) p q hl
  | .al :: [], _ =>
    have q : Pre (pend p ++ (65 :: [108,108,111,119,58])) cs [] := hp
    have := plain_gtE w x ln 65 _ cs (key_ok (by decide)) p q hl
    refine ⟨[], ?_, rfl, by show 0 < _; omega⟩
    rw [show nls (keyT [It.al]) = 0 from rfl, Int.add_zero]
    exact this
  | .al :: it :: its, _ =>
    have q : Pre (pend p ++ (65 :: [108,108,111,119,58] ++ 10 :: aft (.al :: it :: its))) cs [] := hp
    exact plain_gt w x ln 65 _ _ 10 cs (.inr rfl) (key_ok (by decide)) p q hl
/-- what the loop leaves -/
noncomputable def Done (rvs : List Value) (rv : Value) (rd : PyData) (ds : List PyData) (o : WOut) : Prop :=
  ∃ new, o.rvs = rvs ++ new ∧ ∀ F : Facts, (∀ p ∈ o.T, p ∈ F) → Rd F rv rd → RdA F new ds
theorem avs_rd {F : Facts} : ∀ {avs : List Value} {ags : List (List Nat)}, RdA [] avs (ags.map fun u => .str (S u)) → RdA F avs (ags.map fun u => .str (S u)) := fun h => h.mono (F := []) fun p (hp : p ∈ ([] : Facts)) => (nomatch hp)
theorem wf_ne {its : List It} {b di rn : Bool} (h : Wf its b di rn false) : its ≠ [] := fun e => by subst e; cases h
theorem read_its (w : World) (x : LX) (y : WX) : ∀ (its : List It) (b di rnn fr : Bool), Wf its b di rnn fr → ∀ (es : List DictEntry) (m : Nat) (rvs : List Value) (rn : Nat) (rec ag : Addr) (dv rv : Value) (avs : List Value) (an : Nat) (ags : List (List Nat)) (dd rd : PyData)
    (ln lnF : Int) (kt tl : Tok) (cs : Chs) (n : Nat), (b = true → es = [] ∧ m = 7) → (di = true → ∃ N t, dv = .int N t) → (rnn = true → rv = .none ∧ rd = .none) → (fr = true → dv = .none ∧ rv = .none ∧ avs = [] ∧ an = 0) →
    RdA [] avs (ags.map fun u => .str (S u)) → Rd [] dv dd → avs.length + its.length ≤ sizeLine → rvs.length + its.length ≤ sizeLine → Pre (aft its) cs [] → cs.length < 900000 → lnF = ln + nls (aft its) →
    LR w x y (wlF w.params x y rec (keyOf its) kt es m) rvs rn rec ag dv rv avs an ln tl cs n lnF (Done rvs rv rd (readD its ags dd rd))
  | [], b, di, rnn, fr, hw, es, m, rvs, rn, rec, ag, dv, rv, avs, an, ags, dd, rd, ln, lnF, kt, tl, cs, n, hb, hd, hr, hf, ha, hdv, hla, hlr, hp, hl, hln => by
    obtain ⟨rfl, rfl, rfl, rfl⟩ := hf hw
    cases hp
    rw [show nls (aft []) = 0 from rfl, Int.add_zero] at hln
    subst hln
    exact c_w_end w x y es m kt rvs rn rec ag lnF tl n _ ⟨[], (List.append_nil rvs).symm, fun _ _ _ => .nil⟩
  | .ua way u :: its, b, di, rnn, fr, hw, es, m, rvs, rn, rec, ag, dv, rv, avs, an, ags, dd, rd, ln, lnF, kt, tl, cs, n, hb, hd, hr, hf, ha, hdv, hla, hlr, hp, hl, hln => by
    obtain ⟨p, cs1, Tw, hp1, hl1⟩ := word_gt w x ln way u _ cs hw.1 hp hl
    obtain ⟨cs2, Tk, hp2, hl2⟩ := key_gt w x (ln + nls u + 1) its p cs1 (wf_ne hw.2) hp1 hl1
    rw [List.length_cons] at hla hlr
    refine c_w_ua w x y es m kt rvs rn rec ag dv rv avs an ln _ _ tl cs cs1 cs2 n (S u) (keyOf its) (by omega) Tw Tk fun kt t tl n => ?_
    refine read_its w x y its b di rnn false hw.2 es m rvs rn rec ag dv rv _ _ (ags ++ [u]) dd rd _ lnF kt tl cs2 n hb hd hr (fun e => nomatch e) ?_ hdv (by rw [List.length_append]; simp only [List.length_cons, List.length_nil]; omega) (by omega) hp2 hl2 ?_
    · rw [List.map_append]
      exact ha.app (.cons (.str _ _) .nil)
    · rw [hln]
      show ln + nls (spell way u ++ 10 :: (keyT its ++ aft its)) = _
      rw [nls_app, nls_spell, nls_ten, nls_app]
      omega
  | .cd N :: its, b, di, rnn, fr, hw, es, m, rvs, rn, rec, ag, dv, rv, avs, an, ags, dd, rd, ln, lnF, kt, tl, cs, n, hb, hd, hr, hf, ha, hdv, hla, hlr, hp, hl, hln => by
    obtain ⟨hN, hrn, hw⟩ := hw
    obtain ⟨rfl, rfl⟩ := hr hrn
    rw [List.length_cons] at hla hlr
    have hne := dig_ne N
    have hok := dig_ok N
    have hn0 : nls (dig N) = 0 := nls_zero fun h => by have := hok 10 h; omega
    have hI := dig_int hN
    have hln2 : lnF = ln + 1 + nls (keyT its) + nls (aft its) := by
      rw [hln]
      show ln + nls (dig N ++ 10 :: (keyT its ++ aft its)) = _
      rw [nls_app, hn0, nls_ten, nls_app]
      omega
    have hp' : Pre (dig N ++ 10 :: (keyT its ++ aft its)) cs [] := hp
    revert hne hok hn0 hI hp'
    generalize dig N = l
    intro hne hok hn0 hI hp'
    cases l with
    | nil => exact absurd rfl hne
    | cons c l =>
      obtain ⟨cs1, Tw, hp1, hl1⟩ := plain_gt w x ln c l (keyT its ++ aft its) 10 cs (.inr rfl) (fun d hd => by
        have := hok d hd
        simp only [List.mem_cons, List.not_mem_nil, or_false, not_or]
        omega) false hp' hl
      obtain ⟨cs2, Tk, hp2, hl2⟩ := key_gt w x (ln + 1) its false cs1 (wf_ne hw) hp1 hl1
      rw [show ln - pn false = ln from Int.sub_zero ln, show ln + sepLn 10 = ln + 1 from rfl] at Tw
      rw [show ln + 1 - pn false = ln + 1 from Int.sub_zero _] at Tk
      refine c_w_cd w x y es m kt rvs rn rec ag dv avs an ln _ _ tl cs cs1 cs2 n _ (keyOf its) N hI.1 hI.2 Tw Tk fun rec kt t tl n => ?_
      exact read_its w x y its b true rnn false hw es m rvs rn rec ag _ .none avs an ags (.int N) .none _ lnF kt tl cs2 n hb (fun _ => ⟨_, _, rfl⟩) hr (fun e => nomatch e) ha (.int _ _) (by omega) (by omega) hp2 hl2 hln2
  | .rr :: its, b, di, rnn, fr, hw, es, m, rvs, rn, rec, ag, dv, rv, avs, an, ags, dd, rd, ln, lnF, kt, tl, cs, n, hb, hd, hr, hf, ha, hdv, hla, hlr, hp, hl, hln => by
    obtain ⟨hb1, hd1, hw⟩ := hw
    obtain ⟨rfl, rfl⟩ := hb hb1
    obtain ⟨N, tN, rfl⟩ := hd hd1
    rw [List.length_cons] at hla hlr
    have hp' : Pre (51 :: [47, 52] ++ 10 :: (keyT its ++ aft its)) cs [] := hp
    obtain ⟨cs1, Tw, hp1, hl1⟩ := plain_gt w x ln 51 [47, 52] (keyT its ++ aft its) 10 cs (.inr rfl) (key_ok (by decide)) false hp' hl
    obtain ⟨cs2, Tk, hp2, hl2⟩ := key_gt w x (ln + 1) its false cs1 (wf_ne hw) hp1 hl1
    rw [show ln - pn false = ln from Int.sub_zero ln, show ln + sepLn 10 = ln + 1 from rfl] at Tw
    rw [show ln + 1 - pn false = ln + 1 from Int.sub_zero _] at Tk
    refine c_w_rr w x y kt rvs rn rec ag N tN rv avs an ln _ _ lnF tl cs cs1 cs2 n (keyOf its) _ Tw Tk fun es m rec tp kt t3 t4 tl n => ?_
    have := read_its w x y its false di false false hw es m rvs rn rec ag (.int N tN) (.ref tp) avs an ags dd (.tuple [.int 3, .int 4]) (ln + 1 + nls (keyT its)) lnF kt tl cs2 n (fun e => nomatch e) hd (fun e => nomatch e) (fun e => nomatch e) ha hdv (by omega) (by omega) hp2 hl2 (by
      rw [hln]
      show ln + nls ([51, 47, 52] ++ 10 :: (keyT its ++ aft its)) = _
      rw [nls_app, show nls [51, 47, 52] = 0 from rfl, nls_ten, nls_app]
      omega)
    refine LCon.weak this fun o hX => ?_
    obtain ⟨new, e, H⟩ := hX
    refine ⟨new, e, fun F hF hv => H F (fun p hp => hF p (List.mem_append_left _ hp)) ?_⟩
    exact .tuple (hF _ (List.mem_append_right _ (.head _))) (.cons (.int _ _) (.cons (.int _ _) .nil))
  | .al :: its, b, di, rnn, fr, hw, es, m, rvs, rn, rec, ag, dv, rv, avs, an, ags, dd, rd, ln, lnF, kt, tl, cs, n, hb, hd, hr, hf, ha, hdv, hla, hlr, hp, hl, hln => by
    rw [List.length_cons] at hla hlr
    have K : ∃ cs2 ln2, GT w x ln cs (keyOf its) ln2 cs2 ∧ Pre (aft its) cs2 [] ∧ cs2.length < 900000 ∧ lnF = ln2 + nls (aft its) := by
      cases its with
      | nil =>
        cases hp
        exact ⟨[], ln, gt_nil w x ln, rfl, hl, hln⟩
      | cons it its =>
        have hp' : Pre (pend true ++ (keyT (it :: its) ++ aft (it :: its))) cs [] := hp
        obtain ⟨cs2, Tk, hp2, hl2⟩ := key_gt w x (ln + 1) (it :: its) true cs (by simp) hp' hl
        rw [show ln + 1 - pn true = ln from Int.add_sub_cancel ln 1] at Tk
        refine ⟨cs2, _, Tk, hp2, hl2, ?_⟩
        rw [hln]
        show ln + nls (10 :: (keyT (it :: its) ++ aft (it :: its))) = _
        rw [nls_ten, nls_app]
        omega
    obtain ⟨cs2, ln2, Tk, hp2, hl2, hln2⟩ := K
    refine c_w_al w x y es m kt rvs rn rec ag dv rv avs an ln ln2 lnF tl cs cs2 n (keyOf its) _ (by omega) Tk fun rec' ag' kt tl n => ?_
    have := read_its w x y its b false true true hw es m (rvs ++ [.ref rec]) (rn + 1) rec' ag' .none .none [] 0 [] .none .none ln2 lnF kt tl cs2 n hb (fun e => nomatch e) (fun _ => ⟨rfl, rfl⟩) (fun _ => ⟨rfl, rfl, rfl, rfl⟩) .nil .none (by simp only [List.length_nil]; omega) (by rw [List.length_append]; simp only [List.length_cons, List.length_nil]; omega) hp2 hl2 hln2
    refine LCon.weak this fun o hX => ?_
    obtain ⟨new, e, H⟩ := hX
    refine ⟨.ref rec :: new, by show o.rvs = _; rw [e, List.append_assoc]; rfl, fun F hF hv => .cons ?_ (H F (fun p hp => hF p (List.mem_append_left _ hp)) .none)⟩
    refine .list (hF _ (List.mem_append_right _ (.head _))) (.cons (.list (hF _ (List.mem_append_right _ (.tail _ (.head _)))) (avs_rd ha)) (.cons (hdv.mono (F := []) fun p (hp : p ∈ ([] : Facts)) => (nomatch hp)) (.cons hv .nil)))
end Mine
end
set_option maxHeartbeats 1000000
noncomputable section
namespace Mine
/-! ## the second row: a comprehension's iterator is asked twice, or not -/
noncomputable def tv (v : World) (b : Bool) : World := { v with params := { v.params with followText := fun s => match instDecidableEqString s "comprehension-iter-twice" with
  | .isTrue _ => b
  | .isFalse _ => v.params.followText s } }
theorem tv_self (w : World) : tv w (w.params.followText "comprehension-iter-twice") = w := by
  obtain ⟨dr, P⟩ := w
  show (⟨dr, { P with followText := _ }⟩ : World) = ⟨dr, P⟩
  congr 1
  cases P
  congr 1
  funext s
  dsimp only
  split
  · rename_i h _; rw [h]
  · rfl
theorem tv_all {p : World → Prop} (ht : ∀ v, p (tv v true)) (hf : ∀ v, p (tv v false)) (w : World) : p w := by
  rw [← tv_self w]
  cases w.params.followText "comprehension-iter-twice" with
  | true => exact ht w
  | false => exact hf w
/-! ## _law_read -/
noncomputable def asV : Stmt → Expr
  | .Assign _ v _ => v
  | _ => .Constant .none 0 ⟨0, 0, 0, 0⟩
noncomputable def lcS : Expr → Scope
  | .ListComp _ _ s _ => s
  | _ => { kind := .function, names := [], isGenerator := false, isCoroutine := false }
noncomputable def cmE (sc : Scope) (q : Str) (L fr : Addr) (cells : List (Str × Addr)) (cd : Value) : Env :=
  { scope := sc, locals := L, globals := 3, cells := cells, qual := q ++ Str.ofString ".<locals>.", func := none, code := cd, frame := some fr, builtins := 0 }
noncomputable def lrX : Expr := asV ((bodOf lrS).getD 0 nop)
noncomputable def lrE1 (L fr : Addr) : Env := cmE (lcS lrX) lrQ L fr [] (.ref 126)
noncomputable def lrL (L fr it acc : Addr) : Code := .compLoop lrX 0 (.ref it) (.ref acc) (lrE1 L fr)
noncomputable def lrK (L fr it acc : Addr) : Code := .compStart lrX 0 (.ref it) (.ref acc) (lrE1 L fr)
noncomputable def sgD (P : Params) (o : Option (Tok × Str × Tok)) : Obj := match o with
  | none => dic [] 0
  | some (a, c, t) => dic [nt P k_sign a (.str c t)] 1
structure COut where
  cs : Chs
  a : Tok
  c : Str
  t : Tok
  (n i : Nat)
noncomputable def lrFs (P : Params) (L it acc : Addr) (o : Option (Tok × Str × Tok)) (ito : Obj) (vs : List Value) (n : Nat) : Facts := [(L, sgD P o), (it, ito), (acc, lst vs n)]
theorem c_lrl_n (w : World) (L fr it acc : Addr) (page : Str) (pt : Tok) (i c : Nat) (hx : page.cps[i]? = some c) (vs : List Value) (n : Nat) (hv : vs.length ≤ sizeLine) (X : COut → Prop) (fs2 : COut → Facts)
    (IH : ∀ a t, LCon pw w (G w.params) 12 (lrL L fr it acc) (lrFs w.params L it acc (some (a, one c, t)) (saO page pt (i + 1)) (vs ++ [.str (one c) t]) (n + 1)) (fun _ => .ok .next) fs2 X) :
    LCon pw w (G w.params) 12 (lrL L fr it acc) (lrFs w.params L it acc none (saO page pt i) vs n) (fun _ => .ok .next) fs2 X := by
  refine lcon_in rfl fun A hA hA1 h sz tk g d os D E0 => ?_
  refine gu (c_snx it page pt i c hx) [2] [(L, sgD w.params none), (it, saO page pt i), (acc, lst vs n)] sz tk [1] (hA.le (by decide)) D E0 (by kernel_rfl) ⟨by decide, by kernel_rfl, rfl⟩ (fun _ => rfl) fun t1 h1 sz1 tk1 hX1 D1 E1 => ?_
  refine gu (c_append acc (.str (one c) t1) vs n hv) [1,1,1] [(L, dic [nt w.params k_sign tk1 (.str (one c) t1)] 1), (it, saO page pt (i + 1)), (acc, lst vs n)] sz1 (tk1 + 1) [2] (hA.le (by decide)) D1 E1 (by kernel_rfl) ⟨by decide, by kernel_rfl, rfl⟩ (fun _ => rfl) fun r2 h2 sz2 tk2 hX2 D2 E2 => ?_
  exact ga (IH tk1 t1) [] [0,1,2] hA (hA1.le (by decide)) D2 E2 (by kernel_rfl) (by decide) rfl
theorem c_lrl_s (w : World) (L fr it acc : Addr) (a : Tok) (ch : Str) (tc : Tok) (page : Str) (pt : Tok) (i c : Nat) (hx : page.cps[i]? = some c) (vs : List Value) (n : Nat) (hv : vs.length ≤ sizeLine) (X : COut → Prop) (fs2 : COut → Facts)
    (IH : ∀ t, LCon pw w (G w.params) 12 (lrL L fr it acc) (lrFs w.params L it acc (some (a, one c, t)) (saO page pt (i + 1)) (vs ++ [.str (one c) t]) (n + 1)) (fun _ => .ok .next) fs2 X) :
    LCon pw w (G w.params) 12 (lrL L fr it acc) (lrFs w.params L it acc (some (a, ch, tc)) (saO page pt i) vs n) (fun _ => .ok .next) fs2 X := by
  refine lcon_in rfl fun A hA hA1 h sz tk g d os D E0 => ?_
  refine gu (c_snx it page pt i c hx) [2] [(L, sgD w.params (some (a, ch, tc))), (it, saO page pt i), (acc, lst vs n)] sz tk [1] (hA.le (by decide)) D E0 (by kernel_rfl) ⟨by decide, by kernel_rfl, rfl⟩ (fun _ => rfl) fun t1 h1 sz1 tk1 hX1 D1 E1 => ?_
  refine gu (c_append acc (.str (one c) t1) vs n hv) [1,1,1] [(L, dic [nt w.params k_sign a (.str (one c) t1)] 1), (it, saO page pt (i + 1)), (acc, lst vs n)] sz1 (tk1 + 1) [2] (hA.le (by decide)) D1 E1 (by kernel_rfl) ⟨by decide, by kernel_rfl, rfl⟩ (fun _ => rfl) fun r2 h2 sz2 tk2 hX2 D2 E2 => ?_
  exact ga (IH t1) [] [0,1,2] hA (hA1.le (by decide)) D2 E2 (by kernel_rfl) (by decide) rfl
theorem c_lrl_e (w : World) (L fr it acc : Addr) (a : Tok) (ch : Str) (tc : Tok) (page : Str) (pt : Tok) (i : Nat) (hx : page.cps[i]? = none) (vs : List Value) (n : Nat) :
    LCon pw w (G w.params) 12 (lrL L fr it acc) (lrFs w.params L it acc (some (a, ch, tc)) (saO page pt i) vs n) (fun _ : Unit => .ok .next) (fun _ => lrFs w.params L it acc (some (a, ch, tc)) (saX i) vs n) (fun _ => True) := by
  refine lcon_in rfl fun A hA hA1 h sz tk g d os D E0 => ?_
  refine gu (c_snE it page pt i hx) [2] [(L, sgD w.params (some (a, ch, tc))), (it, saO page pt i), (acc, lst vs n)] sz tk [1] (hA.le (by decide)) D E0 (by kernel_rfl) ⟨by decide, by kernel_rfl, rfl⟩ (fun _ => rfl) fun y1 h1 sz1 tk1 hX1 D1 E1 => ?_
  exact gf (()) [5] [0,1,2] hA D1 E1 (by kernel_rfl) (by decide) rfl (trivial)
theorem at_drop {x : Str} {l : List Nat} {i c : Nat} (h : x.cps.toList.drop i = c :: l) : x.cps[i]? = some c ∧ x.cps.toList.drop (i + 1) = l := by
  have h1 : x.cps.toList[i]? = some c := by
    have := congrArg (·[0]?) h
    simpa using this
  refine ⟨by simpa using h1, ?_⟩
  rw [← List.drop_drop, h]
  rfl
theorem at_end {x : Str} {i : Nat} (h : x.cps.toList.drop i = []) : x.cps[i]? = none := by
  have : x.cps.toList.length ≤ i := List.drop_eq_nil_iff.mp h
  simpa using this
noncomputable def cFs (P : Params) (L it acc : Addr) (vs : List Value) (o : COut) : Facts := lrFs P L it acc (some (o.a, o.c, o.t)) (saX o.i) (vs ++ chs o.cs) o.n
theorem chs_app : ∀ (a b : Chs), chs (a ++ b) = chs a ++ chs b
  | [], b => rfl
  | p :: a, b => congrArg (_ :: ·) (chs_app a b)
theorem lr_run (w : World) (L fr it acc : Addr) (page : Str) (pt : Tok) : ∀ (l : List Nat) (i : Nat) (a : Tok) (ch : Str) (tc : Tok) (vs : List Value) (n : Nat), page.cps.toList.drop i = l → vs.length + l.length ≤ sizeLine →
    LCon pw w (G w.params) 12 (lrL L fr it acc) (lrFs w.params L it acc (some (a, ch, tc)) (saO page pt i) vs n) (fun _ : COut => .ok .next) (cFs w.params L it acc vs) (fun o => o.cs.map (·.1) = l)
  | [], i, a, ch, tc, vs, n, h, hv => by
    intro A hA h0 sz tk g d os D
    refine codeAny_mono (c_lrl_e w L fr it acc a ch tc page pt i (at_end h) vs n A hA h0 sz tk g d os D) fun r s' hp => ?_
    obtain ⟨x, h2, sz2, tk2, hr', hs', D2, S2, hX'⟩ := hp
    have e : cFs w.params L it acc vs ⟨[], a, ch, tc, n, i⟩ = lrFs w.params L it acc (some (a, ch, tc)) (saX i) vs n := by
      show lrFs _ _ _ _ _ _ (vs ++ []) n = _
      rw [List.append_nil]
    exact ⟨⟨[], a, ch, tc, n, i⟩, h2, sz2, tk2, hr', hs', e ▸ D2, e ▸ S2, rfl⟩
  | c :: l, i, a, ch, tc, vs, n, h, hv => by
    rw [List.length_cons] at hv
    refine c_lrl_s w L fr it acc a ch tc page pt i c (at_drop h).1 vs n (by omega) _ _ fun t => ?_
    intro A hA h0 sz tk g d os D
    refine codeAny_mono (lr_run w L fr it acc page pt l (i + 1) a (one c) t (vs ++ [.str (one c) t]) (n + 1) (at_drop h).2 (by rw [List.length_append]; simp only [List.length_cons, List.length_nil]; omega) A hA h0 sz tk g d os D) fun r s' hp => ?_
    obtain ⟨x, h2, sz2, tk2, hr', hs', D2, S2, hX'⟩ := hp
    have e : cFs w.params L it acc vs ⟨(c, t) :: x.cs, x.a, x.c, x.t, x.n, x.i⟩ = cFs w.params L it acc (vs ++ [.str (one c) t]) x := by
      show lrFs _ _ _ _ _ _ (vs ++ (.str (one c) t :: chs x.cs)) _ = lrFs _ _ _ _ _ _ ((vs ++ [.str (one c) t]) ++ chs x.cs) _
      rw [List.append_assoc]
      rfl
    exact ⟨⟨(c, t) :: x.cs, x.a, x.c, x.t, x.n, x.i⟩, h2, sz2, tk2, hr', hs', e ▸ D2, e ▸ S2, congrArg (c :: ·) hX'⟩
theorem lr_run0 (w : World) (L fr it acc : Addr) (page : Str) (pt : Tok) (c : Nat) (l : List Nat) (h : page.cps.toList = c :: l) (hv : l.length + 1 ≤ sizeLine) :
    LCon pw w (G w.params) 12 (lrL L fr it acc) (lrFs w.params L it acc none (saO page pt 0) [] 0) (fun _ : COut => .ok .next) (cFs w.params L it acc []) (fun o => o.cs.map (·.1) = c :: l) := by
  have h' : page.cps.toList.drop 0 = c :: l := h
  refine c_lrl_n w L fr it acc page pt 0 c (at_drop h').1 [] 0 (by simp) _ _ fun a t => ?_
  intro A hA h0 sz tk g d os D
  refine codeAny_mono (lr_run w L fr it acc page pt l (0 + 1) a (one c) t ([] ++ [.str (one c) t]) (0 + 1) (at_drop h').2 (by simp only [List.nil_append, List.length_cons, List.length_nil]; omega) A hA h0 sz tk g d os D) fun r s' hp => ?_
  obtain ⟨x, h2, sz2, tk2, hr', hs', D2, S2, hX'⟩ := hp
  exact ⟨⟨(c, t) :: x.cs, x.a, x.c, x.t, x.n, x.i⟩, h2, sz2, tk2, hr', hs', D2, S2, congrArg (c :: ·) hX'⟩
theorem c_lrk (w : World) (L fr it acc : Addr) (page : Str) (pt : Tok) (c : Nat) (l : List Nat) (hpg : page.cps.toList = c :: l) (hv : l.length + 1 ≤ sizeLine) :
    LCon pw w (G w.params) 13 (lrK L fr it acc) (lrFs w.params L it acc none (saO page pt 0) [] 0) (fun _ : COut => .ok .next) (cFs w.params L it acc []) (fun o => o.cs.map (·.1) = c :: l) := by
  refine tv_all (p := fun w => LCon pw w (G w.params) 13 (lrK L fr it acc) (lrFs w.params L it acc none (saO page pt 0) [] 0) (fun _ : COut => .ok .next) (cFs w.params L it acc []) (fun o => o.cs.map (·.1) = c :: l)) (fun w => ?_) (fun w => ?_) w
  · refine lcon_in rfl fun A hA hA1 h sz tk g d os D E0 => ?_
    exact ga (lr_run0 (tv w true) L fr it acc page pt c l hpg hv) [] [0,1,2] hA (hA1.le (by decide)) D E0 (by kernel_rfl) (by decide) rfl
  · refine lcon_in rfl fun A hA hA1 h sz tk g d os D E0 => ?_
    exact ga (lr_run0 (tv w false) L fr it acc page pt c l hpg hv) [2,2,0,2,0,2] [0,1,2] hA (hA1.le (by decide)) D E0 (by generalize w = w'; revert w'; exact tw_fa (by kernel_rfl) (by kernel_rfl)) (by decide) rfl
noncomputable def lrC (page : Str) (pt : Tok) : Code := .call (.ref 127) ⟨[.str page pt], []⟩
noncomputable def laB : Expr → FuncBody
  | .Lambda _ b _ _ => .expr b
  | _ => .stmts []
noncomputable def laP (d : Arguments) : Expr → Arguments
  | .Lambda a _ _ _ => a
  | _ => d
noncomputable def laS : Expr → Scope
  | .Lambda _ _ s _ => s
  | _ => { kind := .function, names := [], isGenerator := false, isCoroutine := false }
noncomputable def lmN : Str := S [60,108,97,109,98,100,97,62]
noncomputable def lmX : Expr := asV ((bodOf lrS).getD 2 nop)
noncomputable def lwN : Str := S [108,97,119,95,110,98,48,49,49,50,95,48,50]
noncomputable def cutN : Str := S [47,99,108,97,105,109,47,99,117,116,46,112,121]
noncomputable def lmD (q : Str) (e : Expr) (cd : Addr) : FuncData :=
  { name := lmN, qualname := q, params := laP (parOf rdS) e, body := laB e, scope := laS e, globals := 3, closure := [], defaults := .none, kwdefaults := .none, pyModule := .str lwN 313, code := .ref cd, closureTuple := .none, builtins := 0 }
noncomputable def lrM : Str := S [95,108,97,119,95,114,101,97,100,46,60,108,111,99,97,108,115,62,46,60,108,97,109,98,100,97,62]
noncomputable def rdV (s t : Nat) : List Value := [.str cutN (t + 2), .int 112 0, .int 1 0, .int 0 0, .int 0 0, .int 19 0, .ref (s + 1), .bool true, .int 181 0, .ref (s + 2), .none, .ref (s + 3), .ref (s + 4), .ref (s + 5), .int (Int.ofNat (t + 5)) 0, .int 112 0, .str cutN (t + 6)]
noncomputable def lrFs2 (P : Params) (page : Str) (pt : Tok) (L lf sz3 tk tk3 : Nat) (cs : Chs) (n : Nat) : Facts :=
  [(124, tbO [.int 112 0, .int 4 0, .ref (sz3 + 6), .int 114 0, .int 13 0, .ref (sz3 + 13)]), (L, fra [nt P k_text tk (.str page pt), nt P k_read (tk3 + 7) (.ref (sz3 + 7)), nt P k_stream (tk3 + 13) (.ref (sz3 + 14))] 3),
   (sz3 + 14, ⟨.type "function", some (sz3 + 15), .func (lmD lrM lmX (sz3 + 13)), #[]⟩), (sz3 + 15, dic [nt P k_read (tk3 + 15) (.ref (sz3 + 7))] 1), (sz3 + 7, rdO (L + 1) sz3 (sz3 + 6)), (sz3 + 6, cdO (.str k_read tk3) rdQ (tk3 + 1) (rdV sz3 tk3)), (L + 1, cel (.ref lf)), (lf, lst (chs cs) n)]
structure LRO where
  (tp rs rc ag : Addr)
  (kt tl : Tok)
  (tb rvs : List Value)
  rn : Nat
  T : Facts
noncomputable def lrOut5 (ln : Int) (o : LRO) : Facts :=
  [(124, tbO o.tb), (o.tp, tup [.ref o.rs, .ref o.rc, .str nilS o.kt, .int ln o.tl]), (o.rs, lst o.rvs o.rn), (o.rc, lst [.ref o.ag, .none, .none] 0), (o.ag, lst [] 0)]
noncomputable def lrOut (ln : Int) (o : LRO) : Facts := lrOut5 ln o ++ o.T
noncomputable def LRO.put (T : Facts) (o : LRO) : LRO := ⟨o.tp, o.rs, o.rc, o.ag, o.kt, o.tl, o.tb, o.rvs, o.rn, T⟩
noncomputable def lxOf (L lf sz3 tk3 : Nat) (o : NOut) : LX := ⟨o.lx, o.ld, sz3 + 14, sz3 + 15, sz3 + 7, L + 1, sz3, sz3 + 6, lf, o.pb, o.a1, o.a2, o.a3, o.a4, o.a5, tk3 + 15, tk3 + 1, .str k_read tk3, rdV sz3 tk3, lmD lrM lmX (sz3 + 13)⟩
noncomputable def wxOf (L rs tk tk3 tk4 tk5 : Nat) (page : Str) (pt : Tok) : WX := ⟨L, rs, tk, tk3 + 7, tk3 + 13, tk4, tk4 + 1, tk4 + 2, tk5, page, pt⟩
theorem pre_of : ∀ {l : List Nat} {cs : Chs}, cs.map (·.1) = l → Pre l cs []
  | [], [], _ => rfl
  | c :: l, (d, t) :: cs, h => by
    obtain ⟨rfl, h2⟩ := List.cons.inj h
    exact ⟨t, cs, rfl, pre_of h2⟩
theorem c_lr (w : World) (page : Str) (pt : Tok) (c : Nat) (l : List Nat) (its : List It) (ha : page.cps.all (· < 128) = true) (hpg : page.cps.toList = c :: l) (hv : l.length + 1 < 900000) (hits : keyT its ++ aft its = c :: l) (hw : Wf its true false true true) (hi : its.length ≤ 900000) :
    LCon pw w (G w.params) 22 (lrC page pt) [(124, tbO [])] (fun o : LRO => ret (.ref o.tp)) (lrOut (1 + nls (c :: l))) (fun o => RdA o.T o.rvs (readD its [] .none .none)) := by
  have hv2 : l.length + 1 ≤ sizeLine := by show _ ≤ 2 ^ 24; omega
  refine lcon_in rfl fun A hA hA1 h sz tk g d os D E0 => ?_
  refine gd (Code.func (bodOf lrS) (lrE sz (sz + 1))) [0,0,2,2] [(124, tbO []), (sz, fra [nt w.params k_text tk (.str (page) pt)] 1), ((sz + 1), cel0)] (sz + 2) (tk + 1) hA hA1 D E0 (by kernel_rfl) rfl rfl fun h1 hA2 D1 E1 => ?_
  refine gu (c_sit page pt ha) [2] [(124, tbO []), (sz, fra [nt w.params k_text tk (.str page pt)] 1), ((sz + 1), cel0)] (sz + 2) (tk + 1) [] (hA2.le (by decide)) D1 E1 (by generalize w = w'; revert w'; exact tw_fa (by kernel_rfl) (by kernel_rfl)) ⟨by decide, by kernel_rfl, rfl⟩ (fun _ => rfl) fun it h2 sz2 tk2 hX2 D2 E2 => ?_
  refine gu (LCon.con (c_lrk w (sz2 + 1) sz it sz2 page pt c l hpg hv2)) [4] [(124, tbO []), (sz, fra [nt w.params k_text tk (.str page pt)] 1), ((sz + 1), cel0), (it, saO page pt 0), (sz2, lst [] 0), ((sz2 + 1), dic [] 0)] (sz2 + 2) tk2 [5,3,4] (hA2.le (by decide)) D2 E2 (by generalize w = w'; revert w'; exact tw_fa (by kernel_rfl) (by kernel_rfl)) ⟨by decide, by kernel_rfl, rfl⟩ (fun _ => rfl) fun o3 h3 sz3 tk3 hX3 D3 E3 => ?_
  refine gus (LCon.con (c_nl w (sz3 + 14))) [6,6,6,3,3,0,1,1,1,1,0,0,0,2,2,0,1,1,1,1,0,0,0,2,2,2,2,21,0,21,0,21,21,21,21,22,22,22,0,2,0,0] (lrFs2 w.params page pt sz sz2 sz3 tk tk3 o3.cs o3.n) [0,1,20,21,13,12,2,4] (sz3 + 16) (tk3 + 16) [] (hA2.le (by decide)) D3 E3 (by generalize w = w'; revert w'; exact tw_fa (by kernel_rfl) (by kernel_rfl)) (by decide) ⟨by decide, by kernel_rfl, rfl⟩ (fun _ => rfl) fun o4 h4 sz4 tk4 hX4 D4 E4 => ?_
  have hne : its ≠ [] := fun e => by subst e; cases hits
  have hl3 : o3.cs.length < 900000 := by
    have := congrArg List.length hX3
    rw [List.length_map, List.length_cons] at this
    omega
  obtain ⟨cs2, Tk, hp2, hl2⟩ := key_gt w (lxOf sz sz2 sz3 tk3 o4) 1 its false o3.cs hne (pre_of (hX3.trans hits.symm)) hl3
  rw [show (1 : Int) - pn false = 1 from rfl] at Tk
  have hln : 1 + nls (c :: l) = 1 + nls (keyT its) + nls (aft its) := by rw [← hits, nls_app]; omega
  refine gu (LCon.con (Tk o4.tl o3.n)) [2,2,2,2,2,2,2,9,0,0,0,9,0,0,0,9,0,0,0,0,9,10,0] [(124, tbO [.int 112 0, .int 4 0, .ref (sz3 + 6), .int 114 0, .int 13 0, .ref (sz3 + 13)]), (sz, fra [nt w.params k_text tk (.str (page) pt), nt w.params k_read (tk3 + 7) (.ref (sz3 + 7)), nt w.params k_stream (tk3 + 13) (.ref (sz3 + 14)), nt w.params k_lexer tk4 (.ref o4.1), nt w.params k_records (tk4 + 1) (.ref sz4), nt w.params k_record (tk4 + 2) (.ref (sz4 + 2))] 6), ((sz3 + 14), ({ cls := .type "function", dict := some (sz3 + 15), data := Data.func (lmD lrM lmX (sz3 + 13)) })), ((sz3 + 15), dic [nt w.params k_read (tk3 + 15) (.ref (sz3 + 7))] 1), ((sz3 + 7), rdO (sz + 1) sz3 (sz3 + 6)), ((sz3 + 6), cdO (.str k_read tk3) rdQ (tk3 + 1) (rdV sz3 tk3)), ((sz + 1), cel (.ref sz2)), (sz2, lst (chs o3.cs) o3.n), (o4.1, (⟨(.ref 59), some o4.2, .plain, #[]⟩ : Obj)), (o4.2, nlD w.params (sz3 + 14) o4), (o4.3, lst [] 0), (sz4, lst [] 0), ((sz4 + 1), lst [] 0), ((sz4 + 2), lst [(.ref (sz4 + 1)), .none, .none] 0)] (sz4 + 3) (tk4 + 3) [8,9,2,3,4,5,6,7,10] (hA2.le (by decide)) D4 E4 (by generalize w = w'; revert w'; exact tw_fa (by kernel_rfl) (by kernel_rfl)) ⟨by decide, by kernel_rfl, rfl⟩ (fun _ => rfl) fun o5 h5 sz5 tk5 hX5 D5 E5 => ?_
  have R := read_its w (lxOf sz sz2 sz3 tk3 o4) (wxOf sz sz4 tk tk3 tk4 tk5 page pt) its true false true true hw [] 7 [] 0 (sz4 + 2) (sz4 + 1) .none .none [] 0 [] .none .none (1 + nls (keyT its)) (1 + nls (c :: l)) o5.t o5.tl cs2 o5.n (fun _ => ⟨rfl, rfl⟩) (fun e => nomatch e) (fun _ => ⟨rfl, rfl⟩) (fun _ => ⟨rfl, rfl, rfl, rfl⟩) .nil .none (by show 0 + its.length ≤ 2 ^ 24; omega) (by show 0 + its.length ≤ 2 ^ 24; omega) hp2 hl2 hln
  refine guk (LCon.con R) [2,2] [(124, tbO [.int 112 0, .int 4 0, .ref (sz3 + 6), .int 114 0, .int 13 0, .ref (sz3 + 13)]), (sz, fra [nt w.params k_text tk (.str (page) pt), nt w.params k_read (tk3 + 7) (.ref (sz3 + 7)), nt w.params k_stream (tk3 + 13) (.ref (sz3 + 14)), nt w.params k_lexer tk4 (.ref o4.1), nt w.params k_records (tk4 + 1) (.ref sz4), nt w.params k_record (tk4 + 2) (.ref (sz4 + 2)), nt w.params k_key tk5 (.str (keyOf its) o5.1)] 7), ((sz3 + 14), ({ cls := .type "function", dict := some (lxOf sz sz2 sz3 tk3 o4).fd, data := Data.func (lxOf sz sz2 sz3 tk3 o4).dt })), ((sz3 + 15), dic [nt w.params k_read (lxOf sz sz2 sz3 tk3 o4).a6 (.ref (lxOf sz sz2 sz3 tk3 o4).rd)] 1), ((sz3 + 7), rdO (lxOf sz sz2 sz3 tk3 o4).cl (lxOf sz sz2 sz3 tk3 o4).ct (lxOf sz sz2 sz3 tk3 o4).cd), ((sz3 + 6), cdO (lxOf sz sz2 sz3 tk3 o4).v0 rdQ (lxOf sz sz2 sz3 tk3 o4).a7 (lxOf sz sz2 sz3 tk3 o4).vs), ((sz + 1), cel (.ref (lxOf sz sz2 sz3 tk3 o4).lf)), (sz2, lst (chs cs2) o5.n), (o4.1, (⟨(.ref 59), some o4.2, .plain, #[]⟩ : Obj)), (o4.2, lexD w.params (lxOf sz sz2 sz3 tk3 o4) (1 + nls (keyT its)) o5.tl), (o4.3, lst [] 0), (sz4, lst [] 0), ((sz4 + 1), lst [] 0), ((sz4 + 2), lst [.ref (sz4 + 1), .none, .none] 0)] sz5 (tk5 + 1) [1,11,13,12,8,9,2,3,4,5,6,7,10] [0] (hA2.le (by decide)) D5 E5 (by generalize w = w'; revert w'; exact tw_fa (by kernel_rfl) (by kernel_rfl)) (by kernel_rfl) (by decide) fun o6 h6 sz6 tk6 hX6 D6 E6 => ?_
  have D7 := D6.perm (perm3 _ _ _)
  have E7 := E6.perm (perm3 _ _ _)
  refine gfr _ o6.T (res := fun o : LRO => ret (.ref o.tp)) (fs2 := lrOut5 (1 + nls (c :: l))) (X := fun o => o.rvs = o6.rvs) (LRO.put o6.T) D7 E7 (fun _ => rfl) (fun _ => rfl) (fun o ho => ?_) fun D8 E8 => ?_
  · obtain ⟨new, e, H⟩ := hX6
    show RdA o6.T o.rvs _
    rw [ho, e]
    exact H o6.T (fun _ hp => hp) .none
  exact gf ({ tp := sz6, rs := sz4, rc := o6.rc, ag := o6.ag, kt := o6.kt, tl := o6.tl, tb := [.int 112 0, .int 4 0, .ref (sz3 + 6), .int 114 0, .int 13 0, .ref (sz3 + 13)], rvs := o6.rvs, rn := o6.rn, T := [] }) [1,1,1,1,5,0,0,0,0,5,0,0,0,5,5,0,6] [13,14,1,2,3] hA2 D8 E8 (by generalize w = w'; revert w'; exact tw_fa (by kernel_rfl) (by kernel_rfl)) (by decide) rfl (rfl)
end Mine
end
set_option maxHeartbeats 1000000
noncomputable section
namespace Mine
/-! ## a comprehension over a text, in general -/
noncomputable def tgD (P : Params) (nm : Str) (o : Option (Tok × Str × Tok)) : Obj := match o with
  | none => dic [] 0
  | some (a, c, t) => dic [nt P nm a (.str c t)] 1
noncomputable abbrev Pcs := List (List Nat × Tok)
noncomputable def stv : Pcs → List Value
  | [] => []
  | p :: l => .str (S p.1) p.2 :: stv l
theorem stv_app : ∀ (a b : Pcs), stv (a ++ b) = stv a ++ stv b
  | [], b => rfl
  | p :: a, b => congrArg (_ :: ·) (stv_app a b)
theorem stv_len : ∀ l : Pcs, (stv l).length = l.length
  | [] => rfl
  | _ :: l => congrArg (· + 1) (stv_len l)
structure TOut where
  ps : Pcs
  a : Tok
  c : Str
  t : Tok
  (n i : Nat)
noncomputable def tFs (P : Params) (nm : Str) (L it acc : Addr) (o : Option (Tok × Str × Tok)) (ito : Obj) (vs : List Value) (n : Nat) (K : Facts) : Facts := (L, tgD P nm o) :: (it, ito) :: (acc, lst vs n) :: K
noncomputable def tEnd (P : Params) (nm : Str) (L it acc : Addr) (vs : List Value) (K : Facts) (r : TOut) : Facts := tFs P nm L it acc (some (r.a, r.c, r.t)) (saX r.i) (vs ++ stv r.ps) r.n K
section
variable (w : World) (code : Code) (lev : Nat) (nm : Str) (L it acc : Addr) (x : Str) (xt : Tok) (f : Nat → List Nat) (K : Facts)
noncomputable def TStep (ok : Nat → Prop) : Prop := ∀ (o : Option (Tok × Str × Tok)) (i c : Nat) (vs : List Value) (n : Nat) (β : Type) (fs2 : β → Facts) (X : β → Prop), x.cps[i]? = some c → ok c → vs.length ≤ sizeLine →
  (∀ a t t' : Tok, LCon pw w (G w.params) lev code (tFs w.params nm L it acc (some (a, one c, t)) (saO x xt (i + 1)) (vs ++ [.str (S (f c)) t']) (n + 1) K) (fun _ => .ok .next) fs2 X) →
  LCon pw w (G w.params) lev code (tFs w.params nm L it acc o (saO x xt i) vs n K) (fun _ => .ok .next) fs2 X
noncomputable def TStop : Prop := ∀ (o : Option (Tok × Str × Tok)) (i : Nat) (vs : List Value) (n : Nat), x.cps[i]? = none →
  LCon pw w (G w.params) lev code (tFs w.params nm L it acc o (saO x xt i) vs n K) (fun _ : Unit => .ok .next) (fun _ => tFs w.params nm L it acc o (saX i) vs n K) (fun _ => True)
theorem txt_some {ok : Nat → Prop} (step : TStep w code lev nm L it acc x xt f K ok) (stop : TStop w code lev nm L it acc x xt K) : ∀ (l : List Nat) (i : Nat) (a : Tok) (ch : Str) (tc : Tok) (vs : List Value) (n : Nat), x.cps.toList.drop i = l → (∀ c ∈ l, ok c) → vs.length + l.length ≤ sizeLine →
    LCon pw w (G w.params) lev code (tFs w.params nm L it acc (some (a, ch, tc)) (saO x xt i) vs n K) (fun _ : TOut => .ok .next) (tEnd w.params nm L it acc vs K) (fun r => r.ps.map (·.1) = l.map f)
  | [], i, a, ch, tc, vs, n, h, hk, hv => by
    intro A hA h0 sz tk g d os D
    refine codeAny_mono (stop (some (a, ch, tc)) i vs n (at_end h) A hA h0 sz tk g d os D) fun r s' hp => ?_
    obtain ⟨y, h2, sz2, tk2, hr', hs', D2, S2, hX'⟩ := hp
    have e : tEnd w.params nm L it acc vs K ⟨[], a, ch, tc, n, i⟩ = tFs w.params nm L it acc (some (a, ch, tc)) (saX i) vs n K := by
      show tFs _ _ _ _ _ _ _ (vs ++ []) n _ = _
      rw [List.append_nil]
    exact ⟨⟨[], a, ch, tc, n, i⟩, h2, sz2, tk2, hr', hs', e ▸ D2, e ▸ S2, rfl⟩
  | c :: l, i, a, ch, tc, vs, n, h, hk, hv => by
    rw [List.length_cons] at hv
    refine step (some (a, ch, tc)) i c vs n _ _ _ (at_drop h).1 (hk c (.head _)) (by omega) fun a t t' => ?_
    intro A hA h0 sz tk g d os D
    refine codeAny_mono (txt_some step stop l (i + 1) a (one c) t (vs ++ [.str (S (f c)) t']) (n + 1) (at_drop h).2 (fun c hc => hk c (.tail _ hc)) (by rw [List.length_append]; simp only [List.length_cons, List.length_nil]; omega) A hA h0 sz tk g d os D) fun r s' hp => ?_
    obtain ⟨y, h2, sz2, tk2, hr', hs', D2, S2, hX'⟩ := hp
    have e : tEnd w.params nm L it acc vs K ⟨(f c, t') :: y.ps, y.a, y.c, y.t, y.n, y.i⟩ = tEnd w.params nm L it acc (vs ++ [.str (S (f c)) t']) K y := by
      show tFs _ _ _ _ _ _ _ (vs ++ (.str (S (f c)) t' :: stv y.ps)) _ _ = tFs _ _ _ _ _ _ _ ((vs ++ [.str (S (f c)) t']) ++ stv y.ps) _ _
      rw [List.append_assoc]
      rfl
    exact ⟨⟨(f c, t') :: y.ps, y.a, y.c, y.t, y.n, y.i⟩, h2, sz2, tk2, hr', hs', e ▸ D2, e ▸ S2, congrArg (f c :: ·) hX'⟩
theorem txt_cons {ok : Nat → Prop} (step : TStep w code lev nm L it acc x xt f K ok) (stop : TStop w code lev nm L it acc x xt K) (c : Nat) (l : List Nat) (h : x.cps.toList = c :: l) (hk : ∀ c' ∈ c :: l, ok c') (hv : l.length + 1 ≤ sizeLine) :
    LCon pw w (G w.params) lev code (tFs w.params nm L it acc none (saO x xt 0) [] 0 K) (fun _ : TOut => .ok .next) (tEnd w.params nm L it acc [] K) (fun r => r.ps.map (·.1) = (c :: l).map f) := by
  have h' : x.cps.toList.drop 0 = c :: l := h
  refine step none 0 c [] 0 _ _ _ (at_drop h').1 (hk c (.head _)) (by simp) fun a t t' => ?_
  intro A hA h0 sz tk g d os D
  refine codeAny_mono (txt_some w code lev nm L it acc x xt f K step stop l (0 + 1) a (one c) t ([] ++ [.str (S (f c)) t']) (0 + 1) (at_drop h').2 (fun c hc => hk c (.tail _ hc)) (by simp only [List.nil_append, List.length_cons, List.length_nil]; omega) A hA h0 sz tk g d os D) fun r s' hp => ?_
  obtain ⟨y, h2, sz2, tk2, hr', hs', D2, S2, hX'⟩ := hp
  exact ⟨⟨(f c, t') :: y.ps, y.a, y.c, y.t, y.n, y.i⟩, h2, sz2, tk2, hr', hs', D2, S2, congrArg (f c :: ·) hX'⟩
end
end Mine
end
set_option maxHeartbeats 1000000
noncomputable section
namespace Mine
/-! ## join -/
noncomputable def jn (sep : List Nat) : List (List Nat) → List Nat
  | [] => []
  | [p] => p
  | p :: q :: l => p ++ sep ++ jn sep (q :: l)
noncomputable def pst (ps : Pcs) : List (Str × Tok) := ps.map fun p => (S p.1, p.2)
theorem stv_eq : ∀ ps : Pcs, stv ps = strValues (pst ps)
  | [] => rfl
  | _ :: l => congrArg (_ :: ·) (stv_eq l)
theorem join_S (sep : List Nat) : ∀ l : List (List Nat), Str.join (S sep) (l.map S) = S (jn sep l)
  | [] => rfl
  | [p] => rfl
  | p :: q :: l => by
    have h := join_S sep (q :: l)
    show S p ++ S sep ++ Str.join (S sep) ((q :: l).map S) = S (p ++ sep ++ jn sep (q :: l))
    rw [h, S_S, S_S]
theorem fold_len (k : Nat) : ∀ (l : List Str) (a : Nat), l.foldl (fun n x => n + x.length + k) a = a + (l.map fun x => x.length + k).sum
  | [], a => by simp
  | x :: l, a => by
    rw [List.foldl_cons, fold_len k l, List.map_cons, List.sum_cons]
    omega
noncomputable def tot (k : Nat) (l : List (List Nat)) : Nat := (l.map fun x => x.length + k).sum
theorem jn_len (sep : List Nat) : ∀ l : List (List Nat), (jn sep l).length ≤ tot sep.length l
  | [] => Nat.zero_le _
  | [p] => by show p.length ≤ p.length + sep.length + 0; omega
  | p :: q :: l => by
    have := jn_len sep (q :: l)
    show (p ++ sep ++ jn sep (q :: l)).length ≤ p.length + sep.length + tot sep.length (q :: l)
    rw [List.length_append, List.length_append]
    omega
theorem c_join {prog : Program} {w : World} {G : Nat → Option Obj} (sep : List Nat) (t : Tok) (a : Addr) (ps : Pcs) (n : Nat) (hl : tot sep.length (ps.map (·.1)) ≤ 1000000) :
    Con prog w G 0 (.call (.builtin "str.join") ⟨[.str (S sep) t, .ref a], []⟩) [(a, lst (stv ps) n)] (fun u : Tok => ret (.str (S (jn sep (ps.map (·.1)))) u)) (fun _ => [(a, lst (stv ps) n)]) (fun _ => True) := by
  intro A hA h sz tk g d os D
  have hm : (pst ps).map (·.1) = (ps.map (·.1)).map S := by simp [pst]
  refine Ok.of_call (call_meets PySem.F.slot_str_join (typeIs_str _ _ t) PySem.F.entry_str_join (PySem.F.args_str_join_2 _ _) (meets_str_join_list (S sep) t a (pst ps) ?_) ⟨?_, ?_⟩)
  · rw [hm]
    show decide (_ > sizeLine) = false
    rw [← Array.foldl_toList, fold_len]
    have : ((ps.map (·.1)).map S).map (fun x => x.length + (S sep).length) = (ps.map (·.1)).map fun x => x.length + sep.length := by
      rw [List.map_map]
      rfl
    rw [this]
    refine decide_eq_false ?_
    show ¬ (0 + tot sep.length (ps.map (·.1)) > 2 ^ 24)
    omega
  · have := isList_lst D.hd
    rw [stv_eq] at this
    exact this
  · have key : ∀ m : Made, (m = .str (S (jn sep (ps.map (·.1)))) ∨ ∃ u, m = .val (.str (S (jn sep (ps.map (·.1)))) u)) → m.post (fun v s' => wants (fun v s' => Post G g d os h [(a, lst (stv ps) n)] (fun u : Tok => ret (.str (S (jn sep (ps.map (·.1)))) u)) (fun _ => [(a, lst (stv ps) n)]) (fun _ => True) (.ok (.ret v)) s') (fun e s' => Post G g d os h [(a, lst (stv ps) n)] (fun u : Tok => ret (.str (S (jn sep (ps.map (·.1)))) u)) (fun _ => [(a, lst (stv ps) n)]) (fun _ => True) (.error e) s') (.ok (.ret v)) s') ⟨h, g, d, tk, os⟩ := by
      rintro m (rfl | ⟨u, rfl⟩)
      · exact ⟨Nat.le_trans (jn_len sep _) (Nat.le_trans hl (by decide)), tk, h, sz, tk + 1, rfl, rfl, D, Since.start _ _, trivial⟩
      · exact ⟨u, h, sz, tk, rfl, rfl, D, Since.start _ _, trivial⟩
    refine key _ ?_
    clear key D hl
    match ps, hm with
    | [], _ => exact .inl rfl
    | [p], _ => exact .inr ⟨p.2, rfl⟩
    | p :: q :: l, hm =>
      refine .inl ?_
      show Made.str (PySem.Builtin.Str.glued (S sep) ((pst (p :: q :: l)).map (·.1))) = _
      rw [StrLaws.glued_eq_join, hm, join_S]
end Mine
end
set_option maxHeartbeats 1000000
noncomputable section
namespace Mine
/-! ## more built-ins -/
noncomputable def rgO (v left : Int) : Obj := fld "range_iterator" [.int v 0, .int left 0, .int 1 0]
noncomputable def liO (l : Addr) (i : Nat) : Obj := fld "list_iterator" [.ref l, .int i 0]
noncomputable def liX (i : Nat) : Obj := fld "list_iterator" [.none, .int i 0]
section
variable {prog : Program} {w : World} {G : Nat → Option Obj}
theorem c_addS (a b : List Nat) (t u : Tok) (hl : a.length + b.length ≤ 1000000) : Con prog w G 0 (.call (.builtin "str.__add__") ⟨[.str (S a) t, .str (S b) u], []⟩) [] (fun t' : Tok => ret (.str (S (a ++ b)) t')) (fun _ => []) (fun _ => True) := by
  have := c_add (prog := prog) (w := w) (G := G) (S a) (S b) t u (Nat.le_trans hl (by decide))
  rw [S_S] at this
  exact this
theorem c_slen (a : List Nat) (t : Tok) (N : Nat) (hN : a.length = N) (hl : N < 1000000) : Con prog w G 0 (.call (.builtin "len") ⟨[.str (S a) t], []⟩) [] (fun u : Tok => ret (.int N u)) (fun _ => []) (fun _ => True) := by
  intro A hA h sz tk g d os D
  subst hN
  exact Ok.of_call (PyProof.Rows.len_str (x := S a) (by show ¬ ((a.length : Int) ≥ 2 ^ 63); omega) (post_same (tk + 1) D rfl rfl trivial))
theorem c_llen (l : Addr) (vs : List Value) (n : Nat) (N : Nat) (hN : vs.length = N) (hl : N < 1000000) : Con prog w G 0 (.call (.builtin "len") ⟨[.ref l], []⟩) [(l, lst vs n)] (fun u : Tok => ret (.int N u)) (fun _ => [(l, lst vs n)]) (fun _ => True) := by
  intro A hA h sz tk g d os D
  subst hN
  exact Ok.of_call (Calls.call_len_list (isList_lst D.hd) (by show (vs.length : Int) < 2 ^ 63; omega) (post_same (tk + 1) D rfl rfl trivial))
theorem c_in1 (l : List Nat) (c : Nat) (t u : Tok) (B : Bool) (hB : decide (c ∈ l) = B) : Con prog w G 0 (.call (.builtin "str.__contains__") ⟨[.str (S l) t, .str (one c) u], []⟩) [] (fun _ : Unit => ret (.bool B)) (fun _ => []) (fun _ => True) :=
  c_in (S l) (one c) t u B (by rw [show one c = ⟨#[c]⟩ from rfl, StrLaws.found_one]; exact hB)
theorem c_sget (a : List Nat) (i c : Nat) (t u : Tok) (hc : a[i]? = some c) (hl : a.length < 1000000) : Con prog w G 0 (.call (.builtin "str.__getitem__") ⟨[.str (S a) t, .int i u], []⟩) [] (fun t' : Tok => ret (.str (one c) t')) (fun _ => []) (fun _ => True) := by
  intro A hA h sz tk g d os D
  have hi : i < a.length := (List.getElem?_eq_some_iff.mp hc).1
  refine Ok.of_call (call_gives PySem.F.slot_str_getitem (typeIs_str _ (S a) t) PySem.F.entry_str_getitem (PySem.F.args_str_getitem_2 _ _) (gives_str_getitem (S a) i t u c ?_ ?_) ⟨?_, post_same tk D rfl rfl trivial⟩)
  · simp only [Bool.or_eq_false_iff, decide_eq_false_iff_not]
    omega
  · have : seqIndex? (i : Int) (S a).length = some i := by
      show seqIndex? (i : Int) a.length = some i
      unfold seqIndex?
      simp only [show ¬ ((i : Int) < 0) by omega, if_false]
      rw [if_pos (by simp only [Bool.and_eq_true, decide_eq_true_eq]; omega)]
      rfl
    rw [this]
    show (S a).cps[i]? = some c
    show (⟨a⟩ : Array Nat)[i]? = some c
    simpa using hc
  · show 1 ≤ sizeLine
    decide
theorem c_mod (a b : Int) (t u : Tok) (hb : b ≠ 0) : Con prog w G 0 (.call (.builtin "int.__mod__") ⟨[.int a t, .int b u], []⟩) [] (fun t' : Tok => ret (.int (a.fmod b) t')) (fun _ => []) (fun _ => True) := by
  intro A hA h sz tk g d os D
  exact Ok.of_call (wpAny_mono (call_int_mod hb (Q := fun v s' => Post G g d os h [] (fun t' : Tok => ret (.int (a.fmod b) t')) (fun _ => []) (fun _ => True) (.ok (.ret v)) s') (post_same tk D rfl rfl trivial)) (fun _ _ h => h.2) fun _ _ h => h)
theorem c_fdiv (a b : Int) (t u : Tok) (hb : b ≠ 0) (hb2 : b.natAbs < 1073741824) : Con prog w G 0 (.call (.builtin "int.__floordiv__") ⟨[.int a t, .int b u], []⟩) [] (fun t' : Tok => ret (.int (a.fdiv b) t')) (fun _ => []) (fun _ => True) := by
  intro A hA h sz tk g d os D
  exact Ok.of_call (wpAny_mono (call_int_floordiv hb (Q := fun v s' => Post G g d os h [] (fun t' : Tok => ret (.int (a.fdiv b) t')) (fun _ => []) (fun _ => True) (.ok (.ret v)) s') (post_same tk D rfl rfl trivial) (.inl (PyProof.noPylong_small hb2))) (fun _ _ h => h.2) fun _ _ h => h)
theorem c_abs (a : Int) (t : Tok) : Con prog w G 0 (.call (.builtin "abs") ⟨[.int a t], []⟩) [] (fun t' : Tok => ret (.int (if a < 0 then -a else a) t')) (fun _ => []) (fun _ => True) := by
  intro A hA h sz tk g d os D
  exact Ok.of_call (call_abs_int fun u tk => post_same u D rfl rfl trivial)
theorem c_ieq (a b : Int) (t u : Tok) (B : Bool) (hB : (a == b) = B) : Con prog w G 0 (.call (.builtin "int.__eq__") ⟨[.int a t, .int b u], []⟩) [] (fun _ : Unit => ret (.bool B)) (fun _ => []) (fun _ => True) := by
  intro A hA h sz tk g d os D
  exact Ok.of_call (call_gives PySem.F.slot_int_eq (typeIs_int _ a t) PySem.F.entry_int_eq (PySem.F.args_int_eq_2 _ _) (gives_int_eq a b t u) (by rw [hB]; exact post_same () D rfl rfl trivial))
/-! ### ranges -/
noncomputable def rnO (n : Int) (t u v : Tok) : Obj := fld "range" [.int 0 u, .int n t, .int 1 v]
theorem c_rng (n : Int) (t : Tok) : Con prog w G 0 (.call (.type "range") ⟨[.int n t], []⟩) [] (fun y : Addr × Tok × Tok => ret (.ref y.1)) (fun y => [(y.1, rnO n t y.2.1 y.2.2)]) (fun _ => True) := by
  intro A hA h sz tk g d os D
  refine Ok.of_call (call_range_1 ?_)
  refine ⟨(sz, tk, tk + 1), _, sz + 1, tk + 2, ?_, rfl, D.alloc (o := rnO n t tk (tk + 1)) rfl, (Since.start h []).alloc D _, trivial⟩
  show ret (.ref h.objs.size) = _
  rw [D.size]
theorem c_rit (r : Addr) (n : Nat) (t u v : Tok) (hn : n < 1000000) : Con prog w G 0 (.call (.builtin "range.__iter__") ⟨[.ref r], []⟩) [(r, rnO n t u v)] (fun y : Addr => ret (.ref y)) (fun y => [(r, rnO n t u v), (y, rgO 0 n)]) (fun _ => True) := by
  intro A hA h sz tk g d os D
  have hsm := small_one (a := 0) (b := (n : Int)) (by omega) (by omega) (by omega) (by omega)
  have hn : Builtin.Range.rangeSize 0 (n : Int) 1 = n := by
    rw [rangeSize_one]
    split <;> omega
  refine Ok.of_call (call_meets F.slot_range_iter ⟨_, D.hd, rfl⟩ F.entry_range_iter (F.args_range_iter_1 _) (AutoRange.range___iter___range_1 r 0 n 1 u t v (by unfold Builtin.Range.small at hsm; rw [hsm]; decide)) ⟨D.hd, ?_⟩)
  unfold Builtin.Range.small at hsm
  simp only [hsm, if_true]
  rw [hn]
  refine ⟨sz, _, sz + 1, tk, ?_, rfl, D.alloc (o := rgO 0 n) rfl, (Since.start h _).alloc D _, trivial⟩
  show ret (.ref h.objs.size) = _
  rw [D.size]
theorem c_rnx (it : Addr) (v left v' left' : Int) (hl : 0 < left) (hv : v' = v + 1) (hl' : left' = left - 1) : Con prog w G 0 (.call (.builtin "range_iterator.__next__") ⟨[.ref it], []⟩) [(it, rgO v left)] (fun t : Tok => ret (.int v t)) (fun _ => [(it, rgO v' left')]) (fun _ => True) := by
  intro A hA h sz tk g d os D
  subst hv
  subst hl'
  refine Ok.of_call (call_meets F.slot_range_iterator_next ⟨_, D.hd, rfl⟩ F.entry_range_iterator_next (F.args_range_iterator_next_1 _) (AutoRange.range_iterator___next___range_iterator_1 it v left 1 (by omega)) ⟨D.hd, ?_⟩)
  have D1 := D.update (i := 0) (p := (it, rgO v left)) (f := Obj.mapFields (·.setIfInBounds 0 (rawInt (v + 1)))) rfl (by rfl)
  have E1 := (Since.start h [(it, rgO v left)]).update (i := 0) (p := (it, rgO v left)) (f := Obj.mapFields (·.setIfInBounds 0 (rawInt (v + 1)))) rfl
  have D2 := D1.update (i := 0) (p := (it, rgO (v + 1) left)) (f := Obj.mapFields (·.setIfInBounds 1 (rawInt (left - 1)))) rfl (by rfl)
  have E2 := E1.update (i := 0) (p := (it, rgO (v + 1) left)) (f := Obj.mapFields (·.setIfInBounds 1 (rawInt (left - 1)))) rfl
  exact ⟨tk, _, sz, _, rfl, rfl, D2, E2, trivial⟩
theorem c_rnE (it : Addr) (v : Int) : Con prog w G 0 (.call (.builtin "range_iterator.__next__") ⟨[.ref it], []⟩) [(it, rgO v 0)] (fun y : Addr × Addr => .error (.ref y.2)) (fun y => [(it, rgO v 0), (y.1, tup []), (y.2, excO y.1)]) (fun _ => True) := by
  intro A hA h sz tk g d os D
  have hit := D.hd
  refine Ok.of_call (wpAny_call_entry F.slot_range_iterator_next ⟨_, hit, rfl⟩ F.entry_range_iterator_next ?_ (F.args_range_iterator_next_1 _))
  show wpAny _ _ (field (.ref it) 0 >>= _) _ _ _
  refine wpAny_bind (wpAny_field hit rfl (x := rawInt v) rfl ?_)
  show wpAny _ _ (field (.ref it) 1 >>= _) _ _ _
  refine wpAny_bind (wpAny_field hit rfl (x := rawInt 0) rfl ?_)
  show wpAny _ _ (field (.ref it) 2 >>= _) _ _ _
  refine wpAny_bind (wpAny_field hit rfl (x := rawInt 1) rfl ?_)
  show wpAny _ _ (if (0 : Int) ≤ 0 then _ else _) _ _ _
  rw [if_pos (Int.le_refl 0)]
  refine wpAny_bind (wpAny_rule ?_)
  refine wpAny_bind ?_
  show Means prog w _ _ _ (.top _) _
  refine gr (.ref (sz + 1)) [] [(it, rgO v 0), (sz, tup []), (sz + 1, excO sz)] (sz + 2) tk hA.1 D (Since.start _ _) (by kernel_rfl) fun h2 D2 E2 => ?_
  exact ⟨(sz, sz + 1), h2, sz + 2, tk, rfl, rfl, D2, E2, trivial⟩
/-! ### lists -/
theorem c_lnx (it l : Addr) (vs : List Value) (n i : Nat) (x : Value) (hx : vs[i]? = some x) : Con prog w G 0 (.call (.builtin "list_iterator.__next__") ⟨[.ref it], []⟩) [(it, liO l i), (l, lst vs n)] (fun _ : Unit => ret x) (fun _ => [(it, liO l (i + 1)), (l, lst vs n)]) (fun _ => True) := by
  intro A hA h sz tk g d os D
  have ho := D.hd
  have hol := D.has (l, lst vs n) (.tail _ (.head _))
  have hx' : (⟨vs⟩ : Array Value)[i]? = some x := by simpa using hx
  refine Ok.of_call (wpAny_call_entry slot_listiter_next ⟨_, ho, rfl⟩ entry_listiter_next ?_ (args_listiter_next _))
  show wpAny _ _ (field (.ref it) 0 >>= _) _ _ _
  refine wpAny_bind (wpAny_field ho rfl (x := .ref l) rfl ?_)
  show wpAny _ _ (if (Value.ref l == Value.none) = true then _ else _) _ _ _
  rw [if_neg (show ¬ ((Value.ref l == Value.none) = true) from Bool.false_ne_true)]
  show wpAny _ _ (field (.ref it) 1 >>= _) _ _ _
  refine wpAny_bind (wpAny_field ho rfl (x := .int i 0) rfl ?_)
  show wpAny _ _ (seqItems? (.ref l) >>= _) _ _ _
  refine wpAny_bind (wpAny_seqItems hol rfl ?_)
  simp only [Int.toNat_natCast, hx']
  refine wpAny_bind (wpAny_setField ho rfl (by simp) (wpAny_pure ⟨x, rfl, ?_⟩))
  exact ⟨(), _, sz, tk, rfl, rfl, D.update (i := 0) (p := (it, liO l i)) (f := Obj.mapFields (·.setIfInBounds 1 (rawInt (i + 1)))) rfl (by rfl), (Since.start h _).update (i := 0) (p := (it, liO l i)) (f := Obj.mapFields (·.setIfInBounds 1 (rawInt (i + 1)))) rfl, trivial⟩
theorem c_lnE (it l : Addr) (vs : List Value) (n i : Nat) (hx : vs[i]? = none) : Con prog w G 0 (.call (.builtin "list_iterator.__next__") ⟨[.ref it], []⟩) [(it, liO l i), (l, lst vs n)] (fun y : Addr × Addr => .error (.ref y.2)) (fun y => [(it, liX i), (l, lst vs n), (y.1, tup []), (y.2, excO y.1)]) (fun _ => True) := by
  intro A hA h sz tk g d os D
  have ho := D.hd
  have hol := D.has (l, lst vs n) (.tail _ (.head _))
  have hx' : (⟨vs⟩ : Array Value)[i]? = none := by simpa using hx
  refine Ok.of_call (wpAny_call_entry slot_listiter_next ⟨_, ho, rfl⟩ entry_listiter_next ?_ (args_listiter_next _))
  show wpAny _ _ (field (.ref it) 0 >>= _) _ _ _
  refine wpAny_bind (wpAny_field ho rfl (x := .ref l) rfl ?_)
  show wpAny _ _ (if (Value.ref l == Value.none) = true then _ else _) _ _ _
  rw [if_neg (show ¬ ((Value.ref l == Value.none) = true) from Bool.false_ne_true)]
  show wpAny _ _ (field (.ref it) 1 >>= _) _ _ _
  refine wpAny_bind (wpAny_field ho rfl (x := .int i 0) rfl ?_)
  show wpAny _ _ (seqItems? (.ref l) >>= _) _ _ _
  refine wpAny_bind (wpAny_seqItems hol rfl ?_)
  simp only [Int.toNat_natCast, hx']
  refine wpAny_bind (wpAny_rule (wpAny_bind (wpAny_setField ho rfl (by simp) ?_)))
  have D1 := D.update (i := 0) (p := (it, liO l i)) (f := Obj.mapFields (·.setIfInBounds 0 .none)) rfl (by rfl)
  have E1 := (Since.start h _).update (i := 0) (p := (it, liO l i)) (f := Obj.mapFields (·.setIfInBounds 0 .none)) (fs₀ := [(it, liO l i), (l, lst vs n)]) rfl
  show Means prog w _ _ _ (.top _) _
  refine gr (.ref (sz + 1)) [] [(it, liX i), (l, lst vs n), (sz, tup []), (sz + 1, excO sz)] (sz + 2) tk hA.1 D1 E1 (by kernel_rfl) fun h2 D2 E2 => ?_
  exact ⟨(sz, sz + 1), h2, sz + 2, tk, rfl, rfl, D2, E2, trivial⟩
/-- the last item -/
theorem c_lgm (l : Addr) (vs : List Value) (v : Value) (n : Nat) (t : Tok) (hl : vs.length < 1000000) : Con prog w G 0 (.call (.builtin "list.__getitem__") ⟨[.ref l, .int (-1) t], []⟩) [(l, lst (vs ++ [v]) n)] (fun _ : Unit => ret v) (fun _ => [(l, lst (vs ++ [v]) n)]) (fun _ => True) := by
  intro A hA h sz tk g d os D
  have hz : (⟨vs ++ [v]⟩ : Array Value).size = vs.length + 1 := by show (vs ++ [v]).length = _; simp
  refine Ok.of_call (wpAny_call_entry slot_list_getitem (isList_lst D.hd).typeIs entry_list_getitem ?_ (args_list_getitem _ _))
  show wpAny _ _ (Builtin.List.listSubscript? (.int (-1) t) >>= _) _ _ _
  refine wpAny_bind (wpAny_listSubscript_int (fitsIndex_neg (by omega) (by omega)) ?_)
  show wpAny _ _ ((Builtin.List.listItems (.ref l) >>= fun xs => pure ((seqIndex? (-1) xs.size).bind fun i => xs[i]?.map (i, ·))) >>= _) _ _ _
  refine wpAny_bind (wpAny_bind ?_)
  show wpAny _ _ (seqItems? (.ref l) >>= _) _ _ _
  refine wpAny_bind (wpAny_seqItems D.hd rfl (wpAny_pure (wpAny_pure ?_)))
  rw [seqIndex_neg (by omega) (by rw [hz]; omega), hz]
  have hx : (⟨vs ++ [v]⟩ : Array Value)[(-1 + ((vs.length + 1 : Nat) : Int)).toNat]? = some v := by
    rw [show (-1 + ((vs.length + 1 : Nat) : Int)).toNat = vs.length from by omega]
    simp
  simp only [Option.bind_some, hx, Option.map_some]
  exact wpAny_pure ⟨v, rfl, post_same () D rfl rfl trivial⟩
theorem c_lsm (l : Addr) (vs : List Value) (v u : Value) (n : Nat) (t : Tok) (hl : vs.length < 1000000) : Con prog w G 0 (.call (.builtin "list.__setitem__") ⟨[.ref l, .int (-1) t, u], []⟩) [(l, lst (vs ++ [v]) n)] (fun _ : Unit => ret .none) (fun _ => [(l, lst (vs ++ [u]) n)]) (fun _ => True) := by
  intro A hA h sz tk g d os D
  have hz : (⟨vs ++ [v]⟩ : Array Value).size = vs.length + 1 := by show (vs ++ [v]).length = _; simp
  refine Ok.of_call (wpAny_call_entry slot_list_setitem (isList_lst D.hd).typeIs entry_list_setitem ?_ (args_list_setitem _ _ _))
  show wpAny _ _ (Builtin.List.listSubscript? (.int (-1) t) >>= _) _ _ _
  refine wpAny_bind (wpAny_listSubscript_int (fitsIndex_neg (by omega) (by omega)) ?_)
  show wpAny _ _ ((Builtin.List.listItems (.ref l) >>= fun xs => pure ((seqIndex? (-1) xs.size).bind fun i => xs[i]?.map (i, ·))) >>= _) _ _ _
  refine wpAny_bind (wpAny_bind ?_)
  show wpAny _ _ (seqItems? (.ref l) >>= _) _ _ _
  refine wpAny_bind (wpAny_seqItems D.hd rfl (wpAny_pure (wpAny_pure ?_)))
  rw [seqIndex_neg (by omega) (by rw [hz]; omega), hz]
  have hx : (⟨vs ++ [v]⟩ : Array Value)[(-1 + ((vs.length + 1 : Nat) : Int)).toNat]? = some v := by
    rw [show (-1 + ((vs.length + 1 : Nat) : Int)).toNat = vs.length from by omega]
    simp
  simp only [Option.bind_some, hx, Option.map_some]
  show wpAny _ _ (setSeqItemAt l _ u >>= _) _ _ _
  refine wpAny_bind (wpAny_setSeqItemAt D.hd rfl ?_)
  have hm : Obj.mapSeq (·.setIfInBounds (-1 + ((vs.length + 1 : Nat) : Int)).toNat u) (lst (vs ++ [v]) n) = lst (vs ++ [u]) n := by
    rw [show (-1 + ((vs.length + 1 : Nat) : Int)).toNat = vs.length from by omega]
    have e : (⟨vs ++ [v]⟩ : Array Value).setIfInBounds vs.length u = ⟨vs ++ [u]⟩ := by
      apply Array.toList_inj.mp
      simp
    show (⟨_, _, .seq ((⟨vs ++ [v]⟩ : Array Value).setIfInBounds vs.length u) (if ((⟨vs ++ [v]⟩ : Array Value).setIfInBounds vs.length u).size == (⟨vs ++ [v]⟩ : Array Value).size then n else n + 1), _⟩ : Obj) = _
    rw [e]
    have : ((⟨vs ++ [u]⟩ : Array Value).size == (⟨vs ++ [v]⟩ : Array Value).size) = true := by
      show ((vs ++ [u]).length == (vs ++ [v]).length) = true
      simp
    rw [this]
    rfl
  exact wpAny_pure ⟨.none, rfl, post_upd () D hm rfl rfl rfl trivial⟩
theorem fits_nat (i : Nat) (hi : i < 1000000) : Builtin.List.listFitsIndex (i : Int) = true := fitsIndex_of (by omega) (by omega)
/-- an item -/
theorem c_lget' (l : Addr) (vs : List Value) (v : Value) (n i : Nat) (k : Int) (hk : k = i) (t : Tok) (hx : vs[i]? = some v) (hf : Builtin.List.listFitsIndex k = true) : Con prog w G 0 (.call (.builtin "list.__getitem__") ⟨[.ref l, .int k t], []⟩) [(l, lst vs n)] (fun _ : Unit => ret v) (fun _ => [(l, lst vs n)]) (fun _ => True) := by
  intro A hA h sz tk g d os D
  have hx' : (⟨vs⟩ : Array Value)[i]? = some v := by simpa using hx
  refine Ok.of_call (wpAny_call_entry slot_list_getitem (isList_lst D.hd).typeIs entry_list_getitem ?_ (args_list_getitem _ _))
  show wpAny _ _ (Builtin.List.listSubscript? (.int k t) >>= _) _ _ _
  refine wpAny_bind (wpAny_listSubscript_int hf ?_)
  clear hf
  subst hk
  show wpAny _ _ ((seqItemAt l i >>= fun r => pure (r.map (i, ·))) >>= _) _ _ _
  refine wpAny_bind (wpAny_bind (wpAny_seqItemAt D.hd rfl (wpAny_pure ?_)))
  rw [hx']
  exact wpAny_pure ⟨v, rfl, post_same () D rfl rfl trivial⟩
theorem c_lget (l : Addr) (vs : List Value) (v : Value) (n i : Nat) (t : Tok) (hx : vs[i]? = some v) (hi : i < 1000000) : Con prog w G 0 (.call (.builtin "list.__getitem__") ⟨[.ref l, .int i t], []⟩) [(l, lst vs n)] (fun _ : Unit => ret v) (fun _ => [(l, lst vs n)]) (fun _ => True) :=
  c_lget' l vs v n i i rfl t hx (fits_nat i hi)
end
/-! ## a comprehension's turns, in general -/
inductive Gl (V : Nat → List Value → Prop) : Nat → Nat → List Value → Prop
  | nil (i : Nat) : Gl V i 0 []
  | cons {i k : Nat} {a b : List Value} : V i a → Gl V (i + 1) k b → Gl V i (k + 1) (a ++ b)
theorem walk {prog : Program} {w : World} {G : Nat → Option Obj} {lev : Nat} {code : Code} {σ : Type} (F : Nat → σ → List Value → Facts) (fin : σ → List Value → Facts) (I : Nat → σ → Prop) (V : Nat → List Value → Prop) (N : Nat)
    (hV : ∀ i us, V i us → us.length ≤ 1)
    (step : ∀ (i : Nat) (s : σ) (vs : List Value) (β : Type) (fs2 : β → Facts) (X : β → Prop), I i s → i < N → vs.length ≤ sizeLine →
      (∀ s' us, I (i + 1) s' → V i us → LCon prog w G lev code (F (i + 1) s' (vs ++ us)) (fun _ => .ok .next) fs2 X) → LCon prog w G lev code (F i s vs) (fun _ => .ok .next) fs2 X)
    (stop : ∀ (s : σ) (vs : List Value), I N s → LCon prog w G lev code (F N s vs) (fun _ : σ => .ok .next) (fun s' => fin s' vs) (fun s' => I N s')) :
    ∀ (k i : Nat) (s : σ) (vs : List Value), i + k = N → I i s → vs.length + k ≤ sizeLine →
      LCon prog w G lev code (F i s vs) (fun _ : σ × List Value => .ok .next) (fun r => fin r.1 (vs ++ r.2)) (fun r => Gl V i k r.2 ∧ I N r.1)
  | 0, i, s, vs, hk, hi, hv => by
    cases hk
    intro A hA h0 sz tk g d os D
    refine codeAny_mono (stop s vs hi A hA h0 sz tk g d os D) fun r s' hp => ?_
    obtain ⟨y, h2, sz2, tk2, hr', hs', D2, S2, hX'⟩ := hp
    have e : fin y (vs ++ []) = fin y vs := congrArg (fin y) (List.append_nil vs)
    exact ⟨(y, []), h2, sz2, tk2, hr', hs', (by show Rep G h2 (fin y (vs ++ [])) sz2; rw [e]; exact D2), (by show Since h0 _ h2 (fin y (vs ++ [])); rw [e]; exact S2), .nil _, hX'⟩
  | k + 1, i, s, vs, hk, hi, hv => by
    refine step i s vs _ _ _ hi (by omega) (by omega) fun s' us hi' hu => ?_
    intro A hA h0 sz tk g d os D
    have hl := hV i us hu
    refine codeAny_mono (walk F fin I V N hV step stop k (i + 1) s' (vs ++ us) (by omega) hi' (by rw [List.length_append]; omega) A hA h0 sz tk g d os D) fun r s' hp => ?_
    obtain ⟨y, h2, sz2, tk2, hr', hs', D2, S2, hX'⟩ := hp
    have e : fin y.1 (vs ++ (us ++ y.2)) = fin y.1 (vs ++ us ++ y.2) := congrArg (fin y.1) (List.append_assoc _ _ _).symm
    exact ⟨(y.1, us ++ y.2), h2, sz2, tk2, hr', hs', (by show Rep G h2 (fin y.1 (vs ++ (us ++ y.2))) sz2; rw [e]; exact D2), (by show Since h0 _ h2 (fin y.1 (vs ++ (us ++ y.2))); rw [e]; exact S2), .cons hu hX'.1, hX'.2⟩
/-! ## contracts in other words -/
section
variable {β β' : Type} {prog : Program} {w : World} {G : Nat → Option Obj} {k : Nat} {c : Code} {fs1 fs1' : Facts} {res : β → Result} {fs2 : β → Facts} {X : β → Prop} {res' : β' → Result} {fs2' : β' → Facts} {X' : β' → Prop}
theorem LCon.map (C : LCon prog w G k c fs1 res fs2 X) (f : β → β') (h : ∀ x, X x → res x = res' (f x) ∧ fs2 x = fs2' (f x) ∧ X' (f x)) : LCon prog w G k c fs1 res' fs2' X' :=
  fun A hA h0 sz tk g d os D => codeAny_mono (C A hA h0 sz tk g d os D) fun r s' ⟨x, h2, sz2, tk2, e1, e2, D2, S2, hx⟩ => by
    obtain ⟨hr, hf, hX⟩ := h x hx
    exact ⟨f x, h2, sz2, tk2, e1.trans hr, e2, hf ▸ D2, hf ▸ S2, hX⟩
theorem LCon.ex (C : LCon prog w G k c fs1 res fs2 X) (h : ∀ x, X x → ∃ y, res x = res' y ∧ fs2 x = fs2' y ∧ X' y) : LCon prog w G k c fs1 res' fs2' X' :=
  fun A hA h0 sz tk g d os D => codeAny_mono (C A hA h0 sz tk g d os D) fun r s' ⟨x, h2, sz2, tk2, e1, e2, D2, S2, hx⟩ => by
    obtain ⟨y, hr, hf, hX⟩ := h x hx
    exact ⟨y, h2, sz2, tk2, e1.trans hr, e2, hf ▸ D2, hf ▸ S2, hX⟩
theorem Since.perm0 {h₀ h : Heap} {fs₀ fs₀' fs : Facts} (S : Since h₀ fs₀ h fs) (p : fs₀.Perm fs₀') : Since h₀ fs₀' h fs :=
  ⟨S.le, fun b o e hx => S.keep b o e fun x hm => hx x (p.mem_iff.mp hm), fun x hx => (S.own x hx).imp (fun ⟨y, hy, e⟩ => ⟨y, p.mem_iff.mp hy, e⟩) id⟩
theorem LCon.perm (C : LCon prog w G k c fs1 res fs2 X) (p : fs1'.Perm fs1) {fs3 : β → Facts} (q : ∀ x, (fs2 x).Perm (fs3 x)) : LCon prog w G k c fs1' res fs3 X :=
  fun A hA h0 sz tk g d os D => codeAny_mono (C A hA h0 sz tk g d os (D.perm p)) fun r s' ⟨x, h2, sz2, tk2, e1, e2, D2, S2, hx⟩ =>
    ⟨x, h2, sz2, tk2, e1, e2, D2.perm (q x), (S2.perm (q x)).perm0 p.symm, hx⟩
theorem Rep.left {h : Heap} {C T : Facts} {sz : Nat} (D : Rep G h (C ++ T) sz) : Rep G h C sz := by
  have hd := D.nd
  rw [List.map_append, List.nodup_append] at hd
  exact ⟨D.size, fun p hp => D.has p (List.mem_append_left _ hp), hd.1, D.grd, fun p hp => D.low p (List.mem_append_left _ hp)⟩
theorem LCon.frame (C : LCon prog w G k c fs1 res fs2 X) (T : Facts) : LCon prog w G k c (fs1 ++ T) res (fun x => fs2 x ++ T) X :=
  fun A hA h0 sz tk g d os D => codeAny_mono (C A hA h0 sz tk g d os D.left) fun r s' ⟨x, h2, sz2, tk2, e1, e2, D2, S2, hx⟩ => by
    have DS := D.keepT (Since.start h0 (fs1 ++ T)) D2 S2
    exact ⟨x, h2, sz2, tk2, e1, e2, DS.1, DS.2, hx⟩
/-- another turn, by a contract that wants the frame back -/
theorem gaT {A A' : Around} {E' : Value → Shared → Prop} {fs0 C0 T : Facts} {j : Nat} {c' : Code} (C : LCon prog w G k c' (fs1 ++ T) res fs2 X)
    {h hm h₀ : Heap} {fs : Facts} {sz szm tk : Nat} {g : Array GenState} {d : Drawn} {os : OsState} {cur : Cur Fin} (D0 : Rep G hm (C0 ++ T) szm) (S0 : Since h₀ fs0 hm (C0 ++ T)) (pl : List Nat) (is : List Nat) (hA : Fit j A') (hA1 : Fit k A) (D : Rep G h fs sz) (S : Since hm C0 h fs)
    (e : ((exm prog w G cur fs sz tk pl).eqs.map (·.1), sel is (exm prog w G cur fs sz tk pl).fs, (exm prog w G cur fs sz tk pl).cur) = ((exm prog w G cur fs sz tk pl).eqs.map (·.2), fs1, .top (.pure (.again c'))))
    (hn : is.Nodup) (hq : c'.quiet = true) : Means prog w A' (QF prog w A (Post G g d os h₀ fs0 res fs2 X)) E' cur ⟨h, g, d, tk, os⟩ := by
  rw [Prod.mk.injEq, Prod.mk.injEq] at e
  obtain ⟨e1, e2, e3⟩ := e
  refine ex_sound hA.1 400 cur h fs sz tk [] pl D S (AllEq.of e1) fun h' D' S' => ?_
  unfold exm at *
  have DS := D0.keepT S0 (e2 ▸ D'.sel hn) (e2 ▸ S'.sel)
  refine at_pure e3 ⟨hq, codeAny_mono (C A hA1 h' _ _ g d os DS.1) fun r s' hp => ?_⟩
  obtain ⟨x, h2, sz2, tk2, hr, hs, D2, S2, hX⟩ := hp
  exact ⟨x, h2, sz2, tk2, hr, hs, D2, DS.2.trans S2, hX⟩
end
/-- strings that were gathered -/
theorem Gl.strs {V : Nat → List Value → Prop} (f : Nat → List Nat) (hV : ∀ i us, V i us → ∃ t, us = [.str (S (f i)) t]) : ∀ {i k : Nat} {us : List Value}, Gl V i k us → ∃ ps : Pcs, us = stv ps ∧ ps.map (·.1) = (List.range' i k).map f
  | _, _, _, .nil i => ⟨[], rfl, rfl⟩
  | _, _, _, .cons (i := i) ha hb => by
    obtain ⟨t, rfl⟩ := hV _ _ ha
    obtain ⟨ps, rfl, e⟩ := hb.strs f hV
    exact ⟨(f i, t) :: ps, rfl, congrArg (f i :: ·) e⟩
end Mine
end
set_option maxHeartbeats 1000000
noncomputable section
namespace Mine
/-! ## _law_spelled -/
noncomputable def spS : Stmt := stm 6
noncomputable def spQ : Str := S [95,108,97,119,95,115,112,101,108,108,101,100]
noncomputable def spE (L : Addr) : Env := envD (scoOf spS) spQ L 110 [(k_word, L + 1)] (.ref 109)
noncomputable def spC (u : Str) (t : Tok) (way : Int) (tw : Tok) : Code := .call (.ref 110) ⟨[.str u t, .int way tw], []⟩
noncomputable def binL : Expr → Expr
  | .BinOp l _ _ _ => l
  | e => e
noncomputable def binR : Expr → Expr
  | .BinOp _ _ r _ => r
  | e => e
noncomputable def cal0 : Expr → Expr
  | .Call _ l _ _ => l.getD 0 (.Constant .none 0 ⟨0, 0, 0, 0⟩)
  | e => e
noncomputable def retV : Stmt → Expr
  | .Return v _ => v.getD (.Constant .none 0 ⟨0, 0, 0, 0⟩)
  | _ => .Constant .none 0 ⟨0, 0, 0, 0⟩
noncomputable def ifT : Stmt → List Stmt
  | .If _ b _ _ => b
  | _ => []
noncomputable def sp0X : Expr := cal0 (binR (binL (retV ((ifT ((bodOf spS).getD 0 nop)).getD 0 nop))))
noncomputable def sp1X : Expr := cal0 (retV ((ifT ((bodOf spS).getD 1 nop)).getD 0 nop))
noncomputable def sp2X : Expr := cal0 (retV ((bodOf spS).getD 2 nop))
noncomputable def cellS (s : Scope) : Scope := { s with names := s.names.map fun x => match x with
  | (n, .free) => (n, .cell)
  | x => x }
noncomputable def spL (X : Expr) (cs : List (Str × Addr)) (L fr it acc : Addr) : Code := .compLoop X 0 (.ref it) (.ref acc) (cmE (cellS (lcS X)) spQ L fr cs (.ref 109))
noncomputable def spK (X : Expr) (cs : List (Str × Addr)) (L fr it acc : Addr) : Code := .compStart X 0 (.ref it) (.ref acc) (cmE (cellS (lcS X)) spQ L fr cs (.ref 109))
noncomputable def f0 (c : Nat) : List Nat := if decide (c ∈ [34, 92]) = true then [92, c] else [c]
noncomputable def f2 (c : Nat) : List Nat := [92, c]
theorem two (c : Nat) : [92].length + [c].length ≤ 1000000 := by show 2 ≤ 1000000; decide
theorem sp2_step (w : World) (L fr it acc : Addr) (x : Str) (xt : Tok) : TStep w (spL sp2X [] L fr it acc) 12 k_sign L it acc x xt f2 [] (fun _ => True) := by
  intro o i c vs n β fs2 X hx hk hv IH
  rcases o with _ | ⟨a, ch, tc⟩
  · refine lcon_in rfl fun A hA hA1 h sz tk g d os D E0 => ?_
    refine gu (c_snx it x xt i c hx) [2] [(L, tgD w.params k_sign none), (it, saO x xt i), (acc, lst vs n)] sz tk [1] (hA.le (by decide)) D E0 (by kernel_rfl) ⟨by decide, by kernel_rfl, rfl⟩ (fun _ => rfl) fun t1 h1 sz1 tk1 hX1 D1 E1 => ?_
    refine gu (c_addS [92] [c] (tk1 + 1) t1 (two c)) [1,1,1] [(L, dic [nt w.params k_sign tk1 (.str (one c) t1)] 1), (it, saO x xt (i + 1)), (acc, lst vs n)] sz1 (tk1 + 2) [] (hA.le (by decide)) D1 E1 (by kernel_rfl) ⟨by decide, by kernel_rfl, rfl⟩ (fun _ => rfl) fun t2 h2 sz2 tk2 hX2 D2 E2 => ?_
    refine gu (c_append acc (.str (S [92, c]) t2) vs n hv) [] [(L, dic [nt w.params k_sign tk1 (.str (one c) t1)] 1), (it, saO x xt (i + 1)), (acc, lst vs n)] sz2 tk2 [2] (hA.le (by decide)) D2 E2 (by kernel_rfl) ⟨by decide, by kernel_rfl, rfl⟩ (fun _ => rfl) fun r3 h3 sz3 tk3 hX3 D3 E3 => ?_
    exact ga (IH tk1 t1 t2) [] [0,1,2] hA (hA1.le (by decide)) D3 E3 (by kernel_rfl) (by decide) rfl
  · refine lcon_in rfl fun A hA hA1 h sz tk g d os D E0 => ?_
    refine gu (c_snx it x xt i c hx) [2] [(L, tgD w.params k_sign (some (a, ch, tc))), (it, saO x xt i), (acc, lst vs n)] sz tk [1] (hA.le (by decide)) D E0 (by kernel_rfl) ⟨by decide, by kernel_rfl, rfl⟩ (fun _ => rfl) fun t1 h1 sz1 tk1 hX1 D1 E1 => ?_
    refine gu (c_addS [92] [c] (tk1 + 1) t1 (two c)) [1,1,1] [(L, dic [nt w.params k_sign a (.str (one c) t1)] 1), (it, saO x xt (i + 1)), (acc, lst vs n)] sz1 (tk1 + 2) [] (hA.le (by decide)) D1 E1 (by kernel_rfl) ⟨by decide, by kernel_rfl, rfl⟩ (fun _ => rfl) fun t2 h2 sz2 tk2 hX2 D2 E2 => ?_
    refine gu (c_append acc (.str (S [92, c]) t2) vs n hv) [] [(L, dic [nt w.params k_sign a (.str (one c) t1)] 1), (it, saO x xt (i + 1)), (acc, lst vs n)] sz2 tk2 [2] (hA.le (by decide)) D2 E2 (by kernel_rfl) ⟨by decide, by kernel_rfl, rfl⟩ (fun _ => rfl) fun r3 h3 sz3 tk3 hX3 D3 E3 => ?_
    exact ga (IH a t1 t2) [] [0,1,2] hA (hA1.le (by decide)) D3 E3 (by kernel_rfl) (by decide) rfl
theorem sp2_stop (w : World) (L fr it acc : Addr) (x : Str) (xt : Tok) : TStop w (spL sp2X [] L fr it acc) 12 k_sign L it acc x xt [] := by
  intro o i vs n hx
  rcases o with _ | ⟨a, ch, tc⟩
  · refine lcon_in rfl fun A hA hA1 h sz tk g d os D E0 => ?_
    refine gu (c_snE it x xt i hx) [2] [(L, tgD w.params k_sign none), (it, saO x xt i), (acc, lst vs n)] sz tk [1] (hA.le (by decide)) D E0 (by kernel_rfl) ⟨by decide, by kernel_rfl, rfl⟩ (fun _ => rfl) fun y1 h1 sz1 tk1 hX1 D1 E1 => ?_
    exact gf (()) [5] [0,1,2] hA D1 E1 (by kernel_rfl) (by decide) rfl (trivial)
  · refine lcon_in rfl fun A hA hA1 h sz tk g d os D E0 => ?_
    refine gu (c_snE it x xt i hx) [2] [(L, tgD w.params k_sign (some (a, ch, tc))), (it, saO x xt i), (acc, lst vs n)] sz tk [1] (hA.le (by decide)) D E0 (by kernel_rfl) ⟨by decide, by kernel_rfl, rfl⟩ (fun _ => rfl) fun y1 h1 sz1 tk1 hX1 D1 E1 => ?_
    exact gf (()) [5] [0,1,2] hA D1 E1 (by kernel_rfl) (by decide) rfl (trivial)
theorem sp0_step (w : World) (L fr it acc : Addr) (x : Str) (xt : Tok) : TStep w (spL sp0X [] L fr it acc) 12 k_sign L it acc x xt f0 [] (fun _ => True) := by
  intro o i c vs n β fs2 X hx hk hv IH
  unfold f0 at IH
  cases hc : decide (c ∈ [34, 92]) with
  | true =>
    rw [if_pos hc] at IH
    rcases o with _ | ⟨a, ch, tc⟩
    · refine lcon_in rfl fun A hA hA1 h sz tk g d os D E0 => ?_
      refine gu (c_snx it x xt i c hx) [2] [(L, tgD w.params k_sign none), (it, saO x xt i), (acc, lst vs n)] sz tk [1] (hA.le (by decide)) D E0 (by kernel_rfl) ⟨by decide, by kernel_rfl, rfl⟩ (fun _ => rfl) fun t1 h1 sz1 tk1 hX1 D1 E1 => ?_
      refine gu (c_in1 [34, 92] c (tk1 + 1) t1 true hc) [1,1,1] [(L, dic [nt w.params k_sign tk1 (.str (one c) t1)] 1), (it, saO x xt (i + 1)), (acc, lst vs n)] sz1 (tk1 + 2) [] (hA.le (by decide)) D1 E1 (by kernel_rfl) ⟨by decide, by kernel_rfl, rfl⟩ (fun _ => rfl) fun t2 h2 sz2 tk2 hX2 D2 E2 => ?_
      refine gu (c_addS [92] [c] tk2 t1 (two c)) [1] [(L, dic [nt w.params k_sign tk1 (.str (one c) t1)] 1), (it, saO x xt (i + 1)), (acc, lst vs n)] sz2 (tk2 + 1) [] (hA.le (by decide)) D2 E2 (by kernel_rfl) ⟨by decide, by kernel_rfl, rfl⟩ (fun _ => rfl) fun t3 h3 sz3 tk3 hX3 D3 E3 => ?_
      refine gu (c_append acc (.str (S [92, c]) t3) vs n hv) [] [(L, dic [nt w.params k_sign tk1 (.str (one c) t1)] 1), (it, saO x xt (i + 1)), (acc, lst vs n)] sz3 tk3 [2] (hA.le (by decide)) D3 E3 (by kernel_rfl) ⟨by decide, by kernel_rfl, rfl⟩ (fun _ => rfl) fun r4 h4 sz4 tk4 hX4 D4 E4 => ?_
      exact ga (IH tk1 t1 t3) [] [0,1,2] hA (hA1.le (by decide)) D4 E4 (by kernel_rfl) (by decide) rfl
    · refine lcon_in rfl fun A hA hA1 h sz tk g d os D E0 => ?_
      refine gu (c_snx it x xt i c hx) [2] [(L, tgD w.params k_sign (some (a, ch, tc))), (it, saO x xt i), (acc, lst vs n)] sz tk [1] (hA.le (by decide)) D E0 (by kernel_rfl) ⟨by decide, by kernel_rfl, rfl⟩ (fun _ => rfl) fun t1 h1 sz1 tk1 hX1 D1 E1 => ?_
      refine gu (c_in1 [34, 92] c (tk1 + 1) t1 true hc) [1,1,1] [(L, dic [nt w.params k_sign a (.str (one c) t1)] 1), (it, saO x xt (i + 1)), (acc, lst vs n)] sz1 (tk1 + 2) [] (hA.le (by decide)) D1 E1 (by kernel_rfl) ⟨by decide, by kernel_rfl, rfl⟩ (fun _ => rfl) fun t2 h2 sz2 tk2 hX2 D2 E2 => ?_
      refine gu (c_addS [92] [c] tk2 t1 (two c)) [1] [(L, dic [nt w.params k_sign a (.str (one c) t1)] 1), (it, saO x xt (i + 1)), (acc, lst vs n)] sz2 (tk2 + 1) [] (hA.le (by decide)) D2 E2 (by kernel_rfl) ⟨by decide, by kernel_rfl, rfl⟩ (fun _ => rfl) fun t3 h3 sz3 tk3 hX3 D3 E3 => ?_
      refine gu (c_append acc (.str (S [92, c]) t3) vs n hv) [] [(L, dic [nt w.params k_sign a (.str (one c) t1)] 1), (it, saO x xt (i + 1)), (acc, lst vs n)] sz3 tk3 [2] (hA.le (by decide)) D3 E3 (by kernel_rfl) ⟨by decide, by kernel_rfl, rfl⟩ (fun _ => rfl) fun r4 h4 sz4 tk4 hX4 D4 E4 => ?_
      exact ga (IH a t1 t3) [] [0,1,2] hA (hA1.le (by decide)) D4 E4 (by kernel_rfl) (by decide) rfl
  | false =>
    rw [if_neg (by rw [hc]; decide)] at IH
    rcases o with _ | ⟨a, ch, tc⟩
    · refine lcon_in rfl fun A hA hA1 h sz tk g d os D E0 => ?_
      refine gu (c_snx it x xt i c hx) [2] [(L, tgD w.params k_sign none), (it, saO x xt i), (acc, lst vs n)] sz tk [1] (hA.le (by decide)) D E0 (by kernel_rfl) ⟨by decide, by kernel_rfl, rfl⟩ (fun _ => rfl) fun t1 h1 sz1 tk1 hX1 D1 E1 => ?_
      refine gu (c_in1 [34, 92] c (tk1 + 1) t1 false hc) [1,1,1] [(L, dic [nt w.params k_sign tk1 (.str (one c) t1)] 1), (it, saO x xt (i + 1)), (acc, lst vs n)] sz1 (tk1 + 2) [] (hA.le (by decide)) D1 E1 (by kernel_rfl) ⟨by decide, by kernel_rfl, rfl⟩ (fun _ => rfl) fun t2 h2 sz2 tk2 hX2 D2 E2 => ?_
      refine gu (c_append acc (.str (one c) t1) vs n hv) [1] [(L, dic [nt w.params k_sign tk1 (.str (one c) t1)] 1), (it, saO x xt (i + 1)), (acc, lst vs n)] sz2 tk2 [2] (hA.le (by decide)) D2 E2 (by kernel_rfl) ⟨by decide, by kernel_rfl, rfl⟩ (fun _ => rfl) fun r4 h4 sz4 tk4 hX4 D4 E4 => ?_
      exact ga (IH tk1 t1 t1) [] [0,1,2] hA (hA1.le (by decide)) D4 E4 (by kernel_rfl) (by decide) rfl
    · refine lcon_in rfl fun A hA hA1 h sz tk g d os D E0 => ?_
      refine gu (c_snx it x xt i c hx) [2] [(L, tgD w.params k_sign (some (a, ch, tc))), (it, saO x xt i), (acc, lst vs n)] sz tk [1] (hA.le (by decide)) D E0 (by kernel_rfl) ⟨by decide, by kernel_rfl, rfl⟩ (fun _ => rfl) fun t1 h1 sz1 tk1 hX1 D1 E1 => ?_
      refine gu (c_in1 [34, 92] c (tk1 + 1) t1 false hc) [1,1,1] [(L, dic [nt w.params k_sign a (.str (one c) t1)] 1), (it, saO x xt (i + 1)), (acc, lst vs n)] sz1 (tk1 + 2) [] (hA.le (by decide)) D1 E1 (by kernel_rfl) ⟨by decide, by kernel_rfl, rfl⟩ (fun _ => rfl) fun t2 h2 sz2 tk2 hX2 D2 E2 => ?_
      refine gu (c_append acc (.str (one c) t1) vs n hv) [1] [(L, dic [nt w.params k_sign a (.str (one c) t1)] 1), (it, saO x xt (i + 1)), (acc, lst vs n)] sz2 tk2 [2] (hA.le (by decide)) D2 E2 (by kernel_rfl) ⟨by decide, by kernel_rfl, rfl⟩ (fun _ => rfl) fun r4 h4 sz4 tk4 hX4 D4 E4 => ?_
      exact ga (IH a t1 t1) [] [0,1,2] hA (hA1.le (by decide)) D4 E4 (by kernel_rfl) (by decide) rfl
theorem sp0_stop (w : World) (L fr it acc : Addr) (x : Str) (xt : Tok) : TStop w (spL sp0X [] L fr it acc) 12 k_sign L it acc x xt [] := by
  intro o i vs n hx
  rcases o with _ | ⟨a, ch, tc⟩
  · refine lcon_in rfl fun A hA hA1 h sz tk g d os D E0 => ?_
    refine gu (c_snE it x xt i hx) [2] [(L, tgD w.params k_sign none), (it, saO x xt i), (acc, lst vs n)] sz tk [1] (hA.le (by decide)) D E0 (by kernel_rfl) ⟨by decide, by kernel_rfl, rfl⟩ (fun _ => rfl) fun y1 h1 sz1 tk1 hX1 D1 E1 => ?_
    exact gf (()) [5] [0,1,2] hA D1 E1 (by kernel_rfl) (by decide) rfl (trivial)
  · refine lcon_in rfl fun A hA hA1 h sz tk g d os D E0 => ?_
    refine gu (c_snE it x xt i hx) [2] [(L, tgD w.params k_sign (some (a, ch, tc))), (it, saO x xt i), (acc, lst vs n)] sz tk [1] (hA.le (by decide)) D E0 (by kernel_rfl) ⟨by decide, by kernel_rfl, rfl⟩ (fun _ => rfl) fun y1 h1 sz1 tk1 hX1 D1 E1 => ?_
    exact gf (()) [5] [0,1,2] hA D1 E1 (by kernel_rfl) (by decide) rfl (trivial)
/-! ### the second way: by places -/
noncomputable def kgD (P : Params) (o : Option (Tok × Nat × Tok)) : Obj := match o with
  | none => dic [] 0
  | some (a, i, t) => dic [nt P k_k a (.int i t)] 1
noncomputable abbrev S1 := Option (Tok × Nat × Tok) × Nat
noncomputable def f1 (i c : Nat) : List Nat := if decide (c ∈ [10, 9, 32, 92]) = true then [92, c] else if i = 0 ∧ c = 34 then [92, c] else [c]
noncomputable def s1F (P : Params) (L it acc cw : Addr) (u : List Nat) (t : Tok) (N : Nat) (i : Nat) (o : Option (Tok × Nat × Tok)) (n : Nat) (vs : List Value) : Facts :=
  [(L, kgD P o), (it, rgO (i : Int) ((N : Int) - (i : Nat))), (acc, lst vs n), (cw, cel (.str (S u) t))]
noncomputable def s1E (P : Params) (L it acc cw : Addr) (u : List Nat) (t : Tok) (N : Nat) (o : Option (Tok × Nat × Tok)) (n : Nat) (vs : List Value) : Facts :=
  [(L, kgD P o), (it, rgO (N : Int) 0), (acc, lst vs n), (cw, cel (.str (S u) t))]
theorem sp1_step (w : World) (L fr it acc cw : Addr) (u : List Nat) (t : Tok) (N : Nat) (hN : u.length < 1000000) (i c : Nat) (hu : u[i]? = some c) (hi : i < N) (o : Option (Tok × Nat × Tok)) (hon : i = 0 → o = none) (hos : i ≠ 0 → ∃ x, o = some x) (n : Nat) (vs : List Value) (hv : vs.length ≤ sizeLine) (β : Type) (fs2 : β → Facts) (X : β → Prop)
    (IH : ∀ (a' t1 : Tok) (n' : Nat) (t' : Tok), LCon pw w (G w.params) 12 (spL sp1X [(k_word, cw)] L fr it acc) (s1F w.params L it acc cw u t N (i + 1) (some (a', i, t1)) n' (vs ++ [.str (S (f1 i c)) t'])) (fun _ => .ok .next) fs2 X) :
    LCon pw w (G w.params) 12 (spL sp1X [(k_word, cw)] L fr it acc) (s1F w.params L it acc cw u t N i o n vs) (fun _ => .ok .next) fs2 X := by
  unfold f1 at IH
  have hl : (0 : Int) < (N : Int) - (i : Nat) := by omega
  have hv1 : ((i + 1 : Nat) : Int) = (i : Int) + 1 := rfl
  have hl1 : (N : Int) - ((i + 1 : Nat) : Int) = (N : Int) - (i : Nat) - 1 := by omega
  cases hc : decide (c ∈ [10, 9, 32, 92]) with
  | true =>
    rw [if_pos hc] at IH
    rcases o with _ | ⟨a, ch, tc⟩
    · refine lcon_in rfl fun A hA hA1 h sz tk g d os D E0 => ?_
      refine gu (c_rnx it (↑i) (↑N - ↑i) (↑(i + 1)) (↑N - ↑(i + 1)) hl hv1 hl1) [2] [(L, kgD w.params none), (it, rgO (↑i) (↑N - ↑i)), (acc, lst vs n), (cw, cel (.str (S u) t))] sz tk [1] (hA.le (by decide)) D E0 (by kernel_rfl) ⟨by decide, by kernel_rfl, rfl⟩ (fun _ => rfl) fun t1 h1 sz1 tk1 hX1 D1 E1 => ?_
      refine gu (c_sget u i c t t1 hu hN) [1,1,4,1] [(L, dic [nt w.params k_k tk1 (.int (Int.ofNat i) t1)] 1), (it, rgO (↑(i + 1)) (↑N - ↑(i + 1))), (acc, lst vs n), (cw, cel (.str (S u) t))] sz1 (tk1 + 1) [] (hA.le (by decide)) D1 E1 (by kernel_rfl) ⟨by decide, by kernel_rfl, rfl⟩ (fun _ => rfl) fun t2 h2 sz2 tk2 hX2 D2 E2 => ?_
      refine gu (c_in1 [10, 9, 32, 92] c tk2 t2 true hc) [] [(L, dic [nt w.params k_k tk1 (.int (Int.ofNat i) t1)] 1), (it, rgO (↑(i + 1)) (↑N - ↑(i + 1))), (acc, lst vs n), (cw, cel (.str (S u) t))] sz2 (tk2 + 1) [] (hA.le (by decide)) D2 E2 (by kernel_rfl) ⟨by decide, by kernel_rfl, rfl⟩ (fun _ => rfl) fun t3 h3 sz3 tk3 hX3 D3 E3 => ?_
      refine gu (c_sget u i c t t1 hu hN) [4,1] [(L, dic [nt w.params k_k tk1 (.int (Int.ofNat i) t1)] 1), (it, rgO (↑(i + 1)) (↑N - ↑(i + 1))), (acc, lst vs n), (cw, cel (.str (S u) t))] sz3 (tk3 + 1) [] (hA.le (by decide)) D3 E3 (by kernel_rfl) ⟨by decide, by kernel_rfl, rfl⟩ (fun _ => rfl) fun t4 h4 sz4 tk4 hX4 D4 E4 => ?_
      refine gu (c_addS [92] [c] tk3 t4 (two c)) [] [(L, dic [nt w.params k_k tk1 (.int (Int.ofNat i) t1)] 1), (it, rgO (↑(i + 1)) (↑N - ↑(i + 1))), (acc, lst vs n), (cw, cel (.str (S u) t))] sz4 tk4 [] (hA.le (by decide)) D4 E4 (by kernel_rfl) ⟨by decide, by kernel_rfl, rfl⟩ (fun _ => rfl) fun t5 h5 sz5 tk5 hX5 D5 E5 => ?_
      refine gu (c_append acc (.str (S [92, c]) t5) vs n hv) [] [(L, dic [nt w.params k_k tk1 (.int (Int.ofNat i) t1)] 1), (it, rgO (↑(i + 1)) (↑N - ↑(i + 1))), (acc, lst vs n), (cw, cel (.str (S u) t))] sz5 tk5 [2] (hA.le (by decide)) D5 E5 (by kernel_rfl) ⟨by decide, by kernel_rfl, rfl⟩ (fun _ => rfl) fun t6 h6 sz6 tk6 hX6 D6 E6 => ?_
      exact ga (IH tk1 t1 (n + 1) t5) [] [0,1,2,3] hA (hA1.le (by decide)) D6 E6 (by kernel_rfl) (by decide) rfl
    · refine lcon_in rfl fun A hA hA1 h sz tk g d os D E0 => ?_
      refine gu (c_rnx it (↑i) (↑N - ↑i) (↑(i + 1)) (↑N - ↑(i + 1)) hl hv1 hl1) [2] [(L, kgD w.params (some (a, ch, tc))), (it, rgO (↑i) (↑N - ↑i)), (acc, lst vs n), (cw, cel (.str (S u) t))] sz tk [1] (hA.le (by decide)) D E0 (by kernel_rfl) ⟨by decide, by kernel_rfl, rfl⟩ (fun _ => rfl) fun t1 h1 sz1 tk1 hX1 D1 E1 => ?_
      refine gu (c_sget u i c t t1 hu hN) [1,1,4,1] [(L, dic [nt w.params k_k a (.int (Int.ofNat i) t1)] 1), (it, rgO (↑(i + 1)) (↑N - ↑(i + 1))), (acc, lst vs n), (cw, cel (.str (S u) t))] sz1 (tk1 + 1) [] (hA.le (by decide)) D1 E1 (by kernel_rfl) ⟨by decide, by kernel_rfl, rfl⟩ (fun _ => rfl) fun t2 h2 sz2 tk2 hX2 D2 E2 => ?_
      refine gu (c_in1 [10, 9, 32, 92] c tk2 t2 true hc) [] [(L, dic [nt w.params k_k a (.int (Int.ofNat i) t1)] 1), (it, rgO (↑(i + 1)) (↑N - ↑(i + 1))), (acc, lst vs n), (cw, cel (.str (S u) t))] sz2 (tk2 + 1) [] (hA.le (by decide)) D2 E2 (by kernel_rfl) ⟨by decide, by kernel_rfl, rfl⟩ (fun _ => rfl) fun t3 h3 sz3 tk3 hX3 D3 E3 => ?_
      refine gu (c_sget u i c t t1 hu hN) [4,1] [(L, dic [nt w.params k_k a (.int (Int.ofNat i) t1)] 1), (it, rgO (↑(i + 1)) (↑N - ↑(i + 1))), (acc, lst vs n), (cw, cel (.str (S u) t))] sz3 (tk3 + 1) [] (hA.le (by decide)) D3 E3 (by kernel_rfl) ⟨by decide, by kernel_rfl, rfl⟩ (fun _ => rfl) fun t4 h4 sz4 tk4 hX4 D4 E4 => ?_
      refine gu (c_addS [92] [c] tk3 t4 (two c)) [] [(L, dic [nt w.params k_k a (.int (Int.ofNat i) t1)] 1), (it, rgO (↑(i + 1)) (↑N - ↑(i + 1))), (acc, lst vs n), (cw, cel (.str (S u) t))] sz4 tk4 [] (hA.le (by decide)) D4 E4 (by kernel_rfl) ⟨by decide, by kernel_rfl, rfl⟩ (fun _ => rfl) fun t5 h5 sz5 tk5 hX5 D5 E5 => ?_
      refine gu (c_append acc (.str (S [92, c]) t5) vs n hv) [] [(L, dic [nt w.params k_k a (.int (Int.ofNat i) t1)] 1), (it, rgO (↑(i + 1)) (↑N - ↑(i + 1))), (acc, lst vs n), (cw, cel (.str (S u) t))] sz5 tk5 [2] (hA.le (by decide)) D5 E5 (by kernel_rfl) ⟨by decide, by kernel_rfl, rfl⟩ (fun _ => rfl) fun t6 h6 sz6 tk6 hX6 D6 E6 => ?_
      exact ga (IH a t1 (n + 1) t5) [] [0,1,2,3] hA (hA1.le (by decide)) D6 E6 (by kernel_rfl) (by decide) rfl
  | false =>
    rw [if_neg (by rw [hc]; decide)] at IH
    by_cases h0 : i = 0
    · subst h0
      by_cases h34 : c = 34
      · subst h34
        rw [if_pos ⟨rfl, rfl⟩] at IH
        cases hon rfl
        · refine lcon_in rfl fun A hA hA1 h sz tk g d os D E0 => ?_
          refine gu (c_rnx it (↑0) (↑N - ↑0) (↑(0 + 1)) (↑N - ↑(0 + 1)) hl hv1 hl1) [2] [(L, kgD w.params none), (it, rgO (↑0) (↑N - ↑0)), (acc, lst vs n), (cw, cel (.str (S u) t))] sz tk [1] (hA.le (by decide)) D E0 (by kernel_rfl) ⟨by decide, by kernel_rfl, rfl⟩ (fun _ => rfl) fun t1 h1 sz1 tk1 hX1 D1 E1 => ?_
          refine gu (c_sget u 0 34 t t1 hu hN) [1,1,4,1] [(L, dic [nt w.params k_k tk1 (.int 0 t1)] 1), (it, rgO (0 + 1) (↑N - (0 + 1))), (acc, lst vs n), (cw, cel (.str (S u) t))] sz1 (tk1 + 1) [] (hA.le (by decide)) D1 E1 (by kernel_rfl) ⟨by decide, by kernel_rfl, rfl⟩ (fun _ => rfl) fun t2 h2 sz2 tk2 hX2 D2 E2 => ?_
          refine gu (c_in1 [10, 9, 32, 92] 34 tk2 t2 false hc) [] [(L, dic [nt w.params k_k tk1 (.int 0 t1)] 1), (it, rgO (0 + 1) (↑N - (0 + 1))), (acc, lst vs n), (cw, cel (.str (S u) t))] sz2 (tk2 + 1) [] (hA.le (by decide)) D2 E2 (by kernel_rfl) ⟨by decide, by kernel_rfl, rfl⟩ (fun _ => rfl) fun t3 h3 sz3 tk3 hX3 D3 E3 => ?_
          refine gu (c_sget u 0 34 t t1 hu hN) [1,0,0,4,1] [(L, dic [nt w.params k_k tk1 (.int 0 t1)] 1), (it, rgO (0 + 1) (↑N - (0 + 1))), (acc, lst vs n), (cw, cel (.str (S u) t))] sz3 (tk3 + 1) [] (hA.le (by decide)) D3 E3 (by generalize w = w'; revert w'; exact tw_fa (by kernel_rfl) (by kernel_rfl)) ⟨by decide, by kernel_rfl, rfl⟩ (fun _ => rfl) fun t4 h4 sz4 tk4 hX4 D4 E4 => ?_
          refine gu (c_sget u 0 34 t t1 hu hN) [0,0,4,1] [(L, dic [nt w.params k_k tk1 (.int 0 t1)] 1), (it, rgO (0 + 1) (↑N - (0 + 1))), (acc, lst vs n), (cw, cel (.str (S u) t))] sz4 (tk4 + 2) [] (hA.le (by decide)) D4 E4 (by generalize w = w'; revert w'; exact tw_fa (by kernel_rfl) (by kernel_rfl)) ⟨by decide, by kernel_rfl, rfl⟩ (fun _ => rfl) fun t5 h5 sz5 tk5 hX5 D5 E5 => ?_
          refine gu (c_addS [92] [34] (tk4 + 1) t5 (two 34)) [] [(L, dic [nt w.params k_k tk1 (.int 0 t1)] 1), (it, rgO (0 + 1) (↑N - (0 + 1))), (acc, lst vs n), (cw, cel (.str (S u) t))] sz5 tk5 [] (hA.le (by decide)) D5 E5 (by generalize w = w'; revert w'; exact tw_fa (by kernel_rfl) (by kernel_rfl)) ⟨by decide, by kernel_rfl, rfl⟩ (fun _ => rfl) fun t6 h6 sz6 tk6 hX6 D6 E6 => ?_
          refine gu (c_append acc (.str (S [92, 34]) t6) vs n hv) [] [(L, dic [nt w.params k_k tk1 (.int 0 t1)] 1), (it, rgO (0 + 1) (↑N - (0 + 1))), (acc, lst vs n), (cw, cel (.str (S u) t))] sz6 tk6 [2] (hA.le (by decide)) D6 E6 (by generalize w = w'; revert w'; exact tw_fa (by kernel_rfl) (by kernel_rfl)) ⟨by decide, by kernel_rfl, rfl⟩ (fun _ => rfl) fun t7 h7 sz7 tk7 hX7 D7 E7 => ?_
          exact ga (IH tk1 t1 (n + 1) t6) [] [0,1,2,3] hA (hA1.le (by decide)) D7 E7 (by generalize w = w'; revert w'; exact tw_fa (by kernel_rfl) (by kernel_rfl)) (by decide) rfl
      · rw [if_neg (fun e => h34 e.2)] at IH
        cases hon rfl
        · refine lcon_in rfl fun A hA hA1 h sz tk g d os D E0 => ?_
          refine gu (c_rnx it (↑0) (↑N - ↑0) (↑(0 + 1)) (↑N - ↑(0 + 1)) hl hv1 hl1) [2] [(L, kgD w.params none), (it, rgO (↑0) (↑N - ↑0)), (acc, lst vs n), (cw, cel (.str (S u) t))] sz tk [1] (hA.le (by decide)) D E0 (by kernel_rfl) ⟨by decide, by kernel_rfl, rfl⟩ (fun _ => rfl) fun t1 h1 sz1 tk1 hX1 D1 E1 => ?_
          refine gu (c_sget u 0 c t t1 hu hN) [1,1,4,1] [(L, dic [nt w.params k_k tk1 (.int 0 t1)] 1), (it, rgO (0 + 1) (↑N - (0 + 1))), (acc, lst vs n), (cw, cel (.str (S u) t))] sz1 (tk1 + 1) [] (hA.le (by decide)) D1 E1 (by kernel_rfl) ⟨by decide, by kernel_rfl, rfl⟩ (fun _ => rfl) fun t2 h2 sz2 tk2 hX2 D2 E2 => ?_
          refine gu (c_in1 [10, 9, 32, 92] c tk2 t2 false hc) [] [(L, dic [nt w.params k_k tk1 (.int 0 t1)] 1), (it, rgO (0 + 1) (↑N - (0 + 1))), (acc, lst vs n), (cw, cel (.str (S u) t))] sz2 (tk2 + 1) [] (hA.le (by decide)) D2 E2 (by kernel_rfl) ⟨by decide, by kernel_rfl, rfl⟩ (fun _ => rfl) fun t3 h3 sz3 tk3 hX3 D3 E3 => ?_
          refine gu (c_sget u 0 c t t1 hu hN) [1,0,0,4,1] [(L, dic [nt w.params k_k tk1 (.int 0 t1)] 1), (it, rgO (0 + 1) (↑N - (0 + 1))), (acc, lst vs n), (cw, cel (.str (S u) t))] sz3 (tk3 + 1) [] (hA.le (by decide)) D3 E3 (by generalize w = w'; revert w'; exact tw_fa (by kernel_rfl) (by kernel_rfl)) ⟨by decide, by kernel_rfl, rfl⟩ (fun _ => rfl) fun t4 h4 sz4 tk4 hX4 D4 E4 => ?_
          refine gu (c_eq (one c) (S [34]) t4 tk4 false (eqOne h34)) [] [(L, dic [nt w.params k_k tk1 (.int 0 t1)] 1), (it, rgO (0 + 1) (↑N - (0 + 1))), (acc, lst vs n), (cw, cel (.str (S u) t))] sz4 (tk4 + 1) [] (hA.le (by decide)) D4 E4 (by generalize w = w'; revert w'; exact tw_fa (by kernel_rfl) (by kernel_rfl)) ⟨by decide, by kernel_rfl, rfl⟩ (fun _ => rfl) fun t5 h5 sz5 tk5 hX5 D5 E5 => ?_
          refine gu (c_sget u 0 c t t1 hu hN) [4,1] [(L, dic [nt w.params k_k tk1 (.int 0 t1)] 1), (it, rgO (0 + 1) (↑N - (0 + 1))), (acc, lst vs n), (cw, cel (.str (S u) t))] sz5 tk5 [] (hA.le (by decide)) D5 E5 (by generalize w = w'; revert w'; exact tw_fa (by kernel_rfl) (by kernel_rfl)) ⟨by decide, by kernel_rfl, rfl⟩ (fun _ => rfl) fun t6 h6 sz6 tk6 hX6 D6 E6 => ?_
          refine gu (c_append acc (.str (one c) t6) vs n hv) [] [(L, dic [nt w.params k_k tk1 (.int 0 t1)] 1), (it, rgO (0 + 1) (↑N - (0 + 1))), (acc, lst vs n), (cw, cel (.str (S u) t))] sz6 tk6 [2] (hA.le (by decide)) D6 E6 (by generalize w = w'; revert w'; exact tw_fa (by kernel_rfl) (by kernel_rfl)) ⟨by decide, by kernel_rfl, rfl⟩ (fun _ => rfl) fun t7 h7 sz7 tk7 hX7 D7 E7 => ?_
          exact ga (IH tk1 t1 (n + 1) t6) [] [0,1,2,3] hA (hA1.le (by decide)) D7 E7 (by generalize w = w'; revert w'; exact tw_fa (by kernel_rfl) (by kernel_rfl)) (by decide) rfl
    · rw [if_neg (fun e => h0 e.1)] at IH
      have e0 : ((i : Int) == 0) = false := beq_eq_false_iff_ne.mpr (by omega)
      obtain ⟨⟨a, ch, tc⟩, rfl⟩ := hos h0
      · refine lcon_in rfl fun A hA hA1 h sz tk g d os D E0 => ?_
        refine gu (c_rnx it (↑i) (↑N - ↑i) (↑(i + 1)) (↑N - ↑(i + 1)) hl hv1 hl1) [2] [(L, kgD w.params (some (a, ch, tc))), (it, rgO (↑i) (↑N - ↑i)), (acc, lst vs n), (cw, cel (.str (S u) t))] sz tk [1] (hA.le (by decide)) D E0 (by kernel_rfl) ⟨by decide, by kernel_rfl, rfl⟩ (fun _ => rfl) fun t1 h1 sz1 tk1 hX1 D1 E1 => ?_
        refine gu (c_sget u i c t t1 hu hN) [1,1,4,1] [(L, dic [nt w.params k_k a (.int (Int.ofNat i) t1)] 1), (it, rgO (↑(i + 1)) (↑N - ↑(i + 1))), (acc, lst vs n), (cw, cel (.str (S u) t))] sz1 (tk1 + 1) [] (hA.le (by decide)) D1 E1 (by kernel_rfl) ⟨by decide, by kernel_rfl, rfl⟩ (fun _ => rfl) fun t2 h2 sz2 tk2 hX2 D2 E2 => ?_
        refine gu (c_in1 [10, 9, 32, 92] c tk2 t2 false hc) [] [(L, dic [nt w.params k_k a (.int (Int.ofNat i) t1)] 1), (it, rgO (↑(i + 1)) (↑N - ↑(i + 1))), (acc, lst vs n), (cw, cel (.str (S u) t))] sz2 (tk2 + 1) [] (hA.le (by decide)) D2 E2 (by kernel_rfl) ⟨by decide, by kernel_rfl, rfl⟩ (fun _ => rfl) fun t3 h3 sz3 tk3 hX3 D3 E3 => ?_
        refine gu (c_ieq (↑i) 0 t1 tk3 false e0) [1] [(L, dic [nt w.params k_k a (.int (Int.ofNat i) t1)] 1), (it, rgO (↑(i + 1)) (↑N - ↑(i + 1))), (acc, lst vs n), (cw, cel (.str (S u) t))] sz3 (tk3 + 1) [] (hA.le (by decide)) D3 E3 (by generalize w = w'; revert w'; exact tw_fa (by kernel_rfl) (by kernel_rfl)) ⟨by decide, by kernel_rfl, rfl⟩ (fun _ => rfl) fun t4 h4 sz4 tk4 hX4 D4 E4 => ?_
        refine gu (c_sget u i c t t1 hu hN) [4,1] [(L, dic [nt w.params k_k a (.int (Int.ofNat i) t1)] 1), (it, rgO (↑(i + 1)) (↑N - ↑(i + 1))), (acc, lst vs n), (cw, cel (.str (S u) t))] sz4 tk4 [] (hA.le (by decide)) D4 E4 (by generalize w = w'; revert w'; exact tw_fa (by kernel_rfl) (by kernel_rfl)) ⟨by decide, by kernel_rfl, rfl⟩ (fun _ => rfl) fun t5 h5 sz5 tk5 hX5 D5 E5 => ?_
        refine gu (c_append acc (.str (one c) t5) vs n hv) [] [(L, dic [nt w.params k_k a (.int (Int.ofNat i) t1)] 1), (it, rgO (↑(i + 1)) (↑N - ↑(i + 1))), (acc, lst vs n), (cw, cel (.str (S u) t))] sz5 tk5 [2] (hA.le (by decide)) D5 E5 (by generalize w = w'; revert w'; exact tw_fa (by kernel_rfl) (by kernel_rfl)) ⟨by decide, by kernel_rfl, rfl⟩ (fun _ => rfl) fun t6 h6 sz6 tk6 hX6 D6 E6 => ?_
        exact ga (IH a t1 (n + 1) t5) [] [0,1,2,3] hA (hA1.le (by decide)) D6 E6 (by generalize w = w'; revert w'; exact tw_fa (by kernel_rfl) (by kernel_rfl)) (by decide) rfl
theorem sp1_stop (w : World) (L fr it acc cw : Addr) (u : List Nat) (t : Tok) (N : Nat) (o : Option (Tok × Nat × Tok)) (n : Nat) (vs : List Value) :
    LCon pw w (G w.params) 12 (spL sp1X [(k_word, cw)] L fr it acc) (s1F w.params L it acc cw u t N N o n vs) (fun _ : Unit => .ok .next) (fun _ => s1E w.params L it acc cw u t N o n vs) (fun _ => True) := by
  have e : s1F w.params L it acc cw u t N N o n vs = s1E w.params L it acc cw u t N o n vs := by
    unfold s1F s1E
    rw [Int.sub_self]
  rw [e]
  rcases o with _ | ⟨a, ch, tc⟩
  · refine lcon_in rfl fun A hA hA1 h sz tk g d os D E0 => ?_
    refine gu (c_rnE it ↑N) [2] [(L, kgD w.params none), (it, rgO (↑N) 0), (acc, lst vs n), (cw, cel (.str (S u) t))] sz tk [1] (hA.le (by decide)) D E0 (by kernel_rfl) ⟨by decide, by kernel_rfl, rfl⟩ (fun _ => rfl) fun y1 h1 sz1 tk1 hX1 D1 E1 => ?_
    exact gf (()) [6] [0,1,2,3] hA D1 E1 (by kernel_rfl) (by decide) rfl (trivial)
  · refine lcon_in rfl fun A hA hA1 h sz tk g d os D E0 => ?_
    refine gu (c_rnE it ↑N) [2] [(L, kgD w.params (some (a, ch, tc))), (it, rgO (↑N) 0), (acc, lst vs n), (cw, cel (.str (S u) t))] sz tk [1] (hA.le (by decide)) D E0 (by kernel_rfl) ⟨by decide, by kernel_rfl, rfl⟩ (fun _ => rfl) fun y1 h1 sz1 tk1 hX1 D1 E1 => ?_
    exact gf (()) [6] [0,1,2,3] hA D1 E1 (by kernel_rfl) (by decide) rfl (trivial)
theorem sp0_k (w : World) (L fr it acc : Addr) (x : Str) (xt : Tok) (c : Nat) (l : List Nat) (hx : x.cps.toList = c :: l) (hv : l.length + 1 ≤ sizeLine) :
    LCon pw w (G w.params) 13 (spK sp0X [] L fr it acc) (tFs w.params k_sign L it acc none (saO x xt 0) [] 0 []) (fun _ : TOut => .ok .next) (tEnd w.params k_sign L it acc [] []) (fun r => r.ps.map (·.1) = (c :: l).map f0) := by
  refine tv_all (p := fun w => LCon pw w (G w.params) 13 (spK sp0X [] L fr it acc) (tFs w.params k_sign L it acc none (saO x xt 0) [] 0 []) (fun _ : TOut => .ok .next) (tEnd w.params k_sign L it acc [] []) (fun r => r.ps.map (·.1) = (c :: l).map f0)) (fun w => ?_) (fun w => ?_) w
  · refine lcon_in rfl fun A hA hA1 h sz tk g d os D E0 => ?_
    exact ga (txt_cons (tv w true) (spL sp0X [] L fr it acc) 12 k_sign L it acc x xt f0 [] (sp0_step (tv w true) L fr it acc x xt) (sp0_stop (tv w true) L fr it acc x xt) c l hx (fun x x_1 => trivial) hv) [] [0,1,2] hA (hA1.le (by decide)) D E0 (by kernel_rfl) (by decide) rfl
  · refine lcon_in rfl fun A hA hA1 h sz tk g d os D E0 => ?_
    exact ga (txt_cons (tv w false) (spL sp0X [] L fr it acc) 12 k_sign L it acc x xt f0 [] (sp0_step (tv w false) L fr it acc x xt) (sp0_stop (tv w false) L fr it acc x xt) c l hx (fun x x_1 => trivial) hv) [2,2,0,2,0,2] [0,1,2] hA (hA1.le (by decide)) D E0 (by generalize w = w'; revert w'; exact tw_fa (by kernel_rfl) (by kernel_rfl)) (by decide) rfl
theorem sp0_kn (w : World) (L fr it acc : Addr) (x : Str) (xt : Tok) (hx : x.cps[0]? = none) :
    LCon pw w (G w.params) 13 (spK sp0X [] L fr it acc) (tFs w.params k_sign L it acc none (saO x xt 0) [] 0 []) (fun _ : Unit => .ok .next) (fun _ => tFs w.params k_sign L it acc none (saX 0) [] 0 []) (fun _ => True) := by
  refine tv_all (p := fun w => LCon pw w (G w.params) 13 (spK sp0X [] L fr it acc) (tFs w.params k_sign L it acc none (saO x xt 0) [] 0 []) (fun _ : Unit => .ok .next) (fun _ => tFs w.params k_sign L it acc none (saX 0) [] 0 []) (fun _ => True)) (fun w => ?_) (fun w => ?_) w
  · refine lcon_in rfl fun A hA hA1 h sz tk g d os D E0 => ?_
    exact ga (sp0_stop (tv w true) L fr it acc x xt none 0 [] 0 hx) [] [0,1,2] hA (hA1.le (by decide)) D E0 (by kernel_rfl) (by decide) rfl
  · refine lcon_in rfl fun A hA hA1 h sz tk g d os D E0 => ?_
    exact ga (sp0_stop (tv w false) L fr it acc x xt none 0 [] 0 hx) [2,2,0,2,0,2] [0,1,2] hA (hA1.le (by decide)) D E0 (by generalize w = w'; revert w'; exact tw_fa (by kernel_rfl) (by kernel_rfl)) (by decide) rfl
theorem sp2_k (w : World) (L fr it acc : Addr) (x : Str) (xt : Tok) (c : Nat) (l : List Nat) (hx : x.cps.toList = c :: l) (hv : l.length + 1 ≤ sizeLine) :
    LCon pw w (G w.params) 13 (spK sp2X [] L fr it acc) (tFs w.params k_sign L it acc none (saO x xt 0) [] 0 []) (fun _ : TOut => .ok .next) (tEnd w.params k_sign L it acc [] []) (fun r => r.ps.map (·.1) = (c :: l).map f2) := by
  refine tv_all (p := fun w => LCon pw w (G w.params) 13 (spK sp2X [] L fr it acc) (tFs w.params k_sign L it acc none (saO x xt 0) [] 0 []) (fun _ : TOut => .ok .next) (tEnd w.params k_sign L it acc [] []) (fun r => r.ps.map (·.1) = (c :: l).map f2)) (fun w => ?_) (fun w => ?_) w
  · refine lcon_in rfl fun A hA hA1 h sz tk g d os D E0 => ?_
    exact ga (txt_cons (tv w true) (spL sp2X [] L fr it acc) 12 k_sign L it acc x xt f2 [] (sp2_step (tv w true) L fr it acc x xt) (sp2_stop (tv w true) L fr it acc x xt) c l hx (fun x x_1 => trivial) hv) [] [0,1,2] hA (hA1.le (by decide)) D E0 (by kernel_rfl) (by decide) rfl
  · refine lcon_in rfl fun A hA hA1 h sz tk g d os D E0 => ?_
    exact ga (txt_cons (tv w false) (spL sp2X [] L fr it acc) 12 k_sign L it acc x xt f2 [] (sp2_step (tv w false) L fr it acc x xt) (sp2_stop (tv w false) L fr it acc x xt) c l hx (fun x x_1 => trivial) hv) [2,2,0,2,0,2] [0,1,2] hA (hA1.le (by decide)) D E0 (by generalize w = w'; revert w'; exact tw_fa (by kernel_rfl) (by kernel_rfl)) (by decide) rfl
structure S1o where
  ps : Pcs
  a : Tok
  i : Nat
  t : Tok
  n : Nat
theorem sp1_l (w : World) (L fr it acc cw : Addr) (u : List Nat) (t : Tok) (N : Nat) (hN : u.length = N) (h0 : 0 < N) (hl : N ≤ 1000) :
    LCon pw w (G w.params) 12 (spL sp1X [(k_word, cw)] L fr it acc) (s1F w.params L it acc cw u t N 0 none 0 []) (fun _ : S1o => .ok .next) (fun r => s1E w.params L it acc cw u t N (some (r.a, r.i, r.t)) r.n (stv r.ps)) (fun r => r.ps.map (·.1) = (List.range' 0 N).map fun i => f1 i (u.getD i 0)) := by
  have W := walk (lev := 12) (code := spL sp1X [(k_word, cw)] L fr it acc) (prog := pw) (w := w) (G := G w.params) (σ := S1) (fun i s vs => s1F w.params L it acc cw u t N i s.1 s.2 vs) (fun s vs => s1E w.params L it acc cw u t N s.1 s.2 vs) (fun i s => (i = 0 → s.1 = none) ∧ (i ≠ 0 → ∃ x, s.1 = some x))
    (fun i us => ∃ t, us = [.str (S (f1 i (u.getD i 0))) t]) N (fun i us ⟨t, e⟩ => by rw [e]; exact Nat.le_refl 1)
    (fun i s vs β fs2 X hI hi hv IH => by
      have hu : u[i]? = some (u.getD i 0) := by
        have : i < u.length := by omega
        simp [List.getD, this]
      exact sp1_step w L fr it acc cw u t N (by omega) i (u.getD i 0) hu hi s.1 hI.1 hI.2 s.2 vs hv β fs2 X fun a' t1 n' t' => IH (some (a', i, t1), n') _ ⟨fun e => absurd e (Nat.succ_ne_zero i), fun _ => ⟨_, rfl⟩⟩ ⟨t', rfl⟩)
    (fun s vs hI => (sp1_stop w L fr it acc cw u t N s.1 s.2 vs).map (fun _ => s) fun _ _ => ⟨rfl, rfl, hI⟩)
    N 0 (none, 0) [] (Nat.zero_add N) ⟨fun _ => rfl, fun h => absurd rfl h⟩ (by show 0 + N ≤ 2 ^ 24; omega)
  refine W.ex fun r hr => ?_
  obtain ⟨ps, e, hp⟩ := Gl.strs (fun i => f1 i (u.getD i 0)) (fun i us h => h) hr.1
  obtain ⟨⟨a, i, t0⟩, ex⟩ := hr.2.2 (Nat.pos_iff_ne_zero.mp h0)
  refine ⟨⟨ps, a, i, t0, r.1.2⟩, rfl, ?_, hp⟩
  show s1E _ _ _ _ _ _ _ _ r.1.1 _ ([] ++ r.2) = _
  rw [e, ex]
  rfl
theorem sp1_k (w : World) (L fr it acc cw : Addr) (u : List Nat) (t : Tok) (N : Nat) (hN : u.length = N) (h0 : 0 < N) (hl : N ≤ 1000) :
    LCon pw w (G w.params) 13 (spK sp1X [(k_word, cw)] L fr it acc) (s1F w.params L it acc cw u t N 0 none 0 []) (fun _ : S1o => .ok .next) (fun r => s1E w.params L it acc cw u t N (some (r.a, r.i, r.t)) r.n (stv r.ps)) (fun r => r.ps.map (·.1) = (List.range' 0 N).map fun i => f1 i (u.getD i 0)) := by
  refine tv_all (p := fun w => LCon pw w (G w.params) 13 (spK sp1X [(k_word, cw)] L fr it acc) (s1F w.params L it acc cw u t N 0 none 0 []) (fun _ : S1o => .ok .next) (fun r => s1E w.params L it acc cw u t N (some (r.a, r.i, r.t)) r.n (stv r.ps)) (fun r => r.ps.map (·.1) = (List.range' 0 N).map fun i => f1 i (u.getD i 0))) (fun w => ?_) (fun w => ?_) w
  · refine lcon_in rfl fun A hA hA1 h sz tk g d os D E0 => ?_
    exact ga (sp1_l (tv w true) L fr it acc cw u t N hN h0 hl) [] [0,1,2,3] hA (hA1.le (by decide)) D E0 (by kernel_rfl) (by decide) rfl
  · refine lcon_in rfl fun A hA hA1 h sz tk g d os D E0 => ?_
    exact ga (sp1_l (tv w false) L fr it acc cw u t N hN h0 hl) [2,2,0,2,0,2] [0,1,2,3] hA (hA1.le (by decide)) D E0 (by generalize w = w'; revert w'; exact tw_fa (by kernel_rfl) (by kernel_rfl)) (by decide) rfl
/-! ### the texts that come out -/
theorem tot_le (k : Nat) : ∀ (l : List (List Nat)), (∀ x ∈ l, x.length ≤ 2) → tot k l ≤ (2 + k) * l.length
  | [], _ => Nat.zero_le _
  | x :: l, h => by
    have := tot_le k l fun y hy => h y (.tail _ hy)
    have h2 := h x (.head _)
    show x.length + k + tot k l ≤ (2 + k) * (l.length + 1)
    rw [Nat.mul_add]
    omega
theorem jn_nil : ∀ (l : List (List Nat)), jn [] l = l.flatten
  | [] => rfl
  | [p] => by simp [jn]
  | p :: q :: l => by
    show p ++ [] ++ jn [] (q :: l) = _
    rw [jn_nil (q :: l), List.append_nil]
    rfl
theorem f0_txt : ∀ u : List Nat, (u.map f0).flatten = (sp0 u).txt
  | [] => rfl
  | c :: u => by
    rw [List.map_cons, List.flatten_cons, f0_txt u]
    show f0 c ++ _ = Spl.txt ((c == 34 || c == 92, c) :: sp0 u)
    by_cases h : c = 34 ∨ c = 92
    · have e1 : (c == 34 || c == 92) = true := by simpa using h
      have e2 : f0 c = [92, c] := by unfold f0; rw [if_pos (by simpa using h)]
      rw [e1, e2]
      rfl
    · have e1 : (c == 34 || c == 92) = false := by simpa using h
      have e2 : f0 c = [c] := by unfold f0; rw [if_neg (by simpa using h)]
      rw [e1, e2]
      rfl
theorem f2_txt : ∀ u : List Nat, (u.map f2).flatten = (sp2 u).txt
  | [] => rfl
  | c :: u => by
    rw [List.map_cons, List.flatten_cons, f2_txt u]
    rfl
theorem f1_tail (u : List Nat) : ∀ (v : List Nat) (i : Nat), 0 < i → u.drop i = v → ((List.range' i v.length).map fun i => f1 i (u.getD i 0)).flatten = Spl.txt (v.map fun c => (es1 c, c))
  | [], _, _, _ => rfl
  | c :: v, i, hi, h => by
    have hc : u.getD i 0 = c := by
      have := congrArg (·[0]?) h
      simp at this
      simp [List.getD, this]
    have ht : u.drop (i + 1) = v := by
      rw [← List.drop_drop, h]
      rfl
    rw [List.length_cons, List.range'_succ, List.map_cons, List.flatten_cons, f1_tail u v (i + 1) (Nat.succ_pos i) ht, hc]
    show f1 i c ++ _ = Spl.txt ((es1 c, c) :: _)
    by_cases h : c ∈ [10, 9, 32, 92]
    · have e1 : es1 c = true := by
        simp only [List.mem_cons, List.not_mem_nil, or_false] at h
        rcases h with rfl | rfl | rfl | rfl <;> rfl
      have e2 : f1 i c = [92, c] := by unfold f1; rw [if_pos (by simpa using h)]
      rw [e1, e2]
      rfl
    · have e1 : es1 c = false := by
        simp only [List.mem_cons, List.not_mem_nil, or_false, not_or] at h
        simp [es1, h]
      have e2 : f1 i c = [c] := by unfold f1; rw [if_neg (by simpa using h), if_neg (by omega)]
      rw [e1, e2]
      rfl
theorem f1_txt (c : Nat) (u : List Nat) : ((List.range' 0 (c :: u).length).map fun i => f1 i ((c :: u).getD i 0)).flatten = (sp1 (c :: u)).txt := by
  rw [List.length_cons, List.range'_succ, List.map_cons, List.flatten_cons, f1_tail (c :: u) u (0 + 1) (by omega) rfl]
  show f1 0 c ++ _ = Spl.txt ((es1 c || c == 34, c) :: _)
  by_cases h : c ∈ [10, 9, 32, 92]
  · have e1 : es1 c = true := by
      simp only [List.mem_cons, List.not_mem_nil, or_false] at h
      rcases h with rfl | rfl | rfl | rfl <;> rfl
    have e2 : f1 0 c = [92, c] := by unfold f1; rw [if_pos (by simpa using h)]
    rw [e1, e2]
    rfl
  · have e1 : es1 c = false := by
      simp only [List.mem_cons, List.not_mem_nil, or_false, not_or] at h
      simp [es1, h]
    by_cases h34 : c = 34
    · subst h34
      rfl
    · have e2 : f1 0 c = [c] := by unfold f1; rw [if_neg (by simpa using h), if_neg (by omega)]
      have e3 : (c == 34) = false := beq_eq_false_iff_ne.mpr h34
      rw [e1, e2, e3]
      rfl
end Mine
end
set_option maxHeartbeats 1000000
noncomputable section
namespace Mine
theorem nil_asc : (S []).cps.all (· < 128) = true := by
  show (⟨[]⟩ : Array Nat).all (· < 128) = true
  simp
theorem len_f0 (c : Nat) : (f0 c).length ≤ 2 := by unfold f0; split <;> simp
theorem len_f2 (c : Nat) : (f2 c).length ≤ 2 := Nat.le_refl 2
theorem len_f1 (i c : Nat) : (f1 i c).length ≤ 2 := by unfold f1; split <;> (try split) <;> simp
theorem tot_f (f : Nat → List Nat) (hf : ∀ c, (f c).length ≤ 2) (l : List Nat) (hl : l.length ≤ 1000) : tot ([] : List Nat).length (l.map f) ≤ 1000000 := by
  have := tot_le 0 (l.map f) fun x hx => by
    obtain ⟨c, _, rfl⟩ := List.mem_map.mp hx
    exact hf c
  rw [List.length_map] at this
  show tot 0 _ ≤ _
  omega
theorem c_sp0c (w : World) (c : Nat) (l : List Nat) (t tw : Tok) (ha : (S (c :: l)).cps.all (· < 128) = true) (hl : (c :: l).length ≤ 1000) :
    LCon pw w (G w.params) 18 (spC (S (c :: l)) t 0 tw) [] (fun o : Tok × List Nat => ret (.str (S o.2) o.1)) (fun o => []) (fun o => o.2 = spell 0 (c :: l)) := by
  have hv : l.length + 1 ≤ sizeLine := by rw [List.length_cons] at hl; show _ ≤ 2 ^ 24; omega
  refine lcon_in rfl fun A hA hA1 h sz tk g d os D E0 => ?_
  refine gd (Code.func (bodOf spS) (spE sz)) [0,0,2,2,1,1] [(sz, fra [nt w.params k_way tk (.int 0 tw)] 1), ((sz + 1), cel (.str (S (c :: l)) t))] (sz + 2) (tk + 1) hA hA1 D E0 (by kernel_rfl) rfl rfl fun h1 hA2 D1 E1 => ?_
  refine gu (c_sit (S (c :: l)) t ha) [1,0,0,2] [(sz, fra [nt w.params k_way tk (.int 0 tw)] 1), ((sz + 1), cel (.str (S (c :: l)) t))] (sz + 2) (tk + 4) [] (hA2.le (by decide)) D1 E1 (by generalize w = w'; revert w'; exact tw_fa (by kernel_rfl) (by kernel_rfl)) ⟨by decide, by kernel_rfl, rfl⟩ (fun _ => rfl) fun it h2 sz2 tk2 hX2 D2 E2 => ?_
  refine gu (LCon.con (sp0_k w (sz2 + 1) sz it sz2 (S (c :: l)) t c l rfl hv)) [3] [(sz, fra [nt w.params k_way tk (.int 0 tw)] 1), ((sz + 1), cel (.str (S (c :: l)) t)), (it, saO (S (c :: l)) t 0), (sz2, lst [] 0), ((sz2 + 1), dic [] 0)] (sz2 + 2) tk2 [4,2,3] (hA2.le (by decide)) D2 E2 (by generalize w = w'; revert w'; exact tw_fa (by kernel_rfl) (by kernel_rfl)) ⟨by decide, by kernel_rfl, rfl⟩ (fun _ => rfl) fun o3 h3 sz3 tk3 hX3 D3 E3 => ?_
  have hj : tot ([] : List Nat).length (o3.ps.map (·.1)) ≤ 1000000 := by rw [hX3]; exact tot_f f0 len_f0 _ hl
  have hjl : (jn [] (o3.ps.map (·.1))).length ≤ 10000 := by
    rw [hX3]
    refine Nat.le_trans (jn_len [] _) (Nat.le_trans (tot_le 0 _ fun x hx => ?_) (by rw [List.length_map]; omega))
    obtain ⟨c, _, rfl⟩ := List.mem_map.mp hx
    exact len_f0 c
  refine gu (c_join [] (tk + 3) sz2 o3.ps o3.n hj) [5,5,5] [(sz, fra [nt w.params k_way tk (.int 0 tw)] 1), ((sz + 1), cel (.str (S (c :: l)) t)), (it, saX o3.i), (sz2, lst ([] ++ stv o3.ps) o3.n), ((sz2 + 1), dic [] 2)] sz3 tk3 [3] (hA2.le (by decide)) D3 E3 (by generalize w = w'; revert w'; exact tw_fa (by kernel_rfl) (by kernel_rfl)) ⟨by decide, by kernel_rfl, rfl⟩ (fun _ => rfl) fun t4 h4 sz4 tk4 hX4 D4 E4 => ?_
  have hq1 : [34].length + (jn [] (o3.ps.map fun p : List Nat × Tok => p.1)).length ≤ 1000000 := by rw [List.length_singleton]; omega
  have hq2 : ([34] ++ jn [] (o3.ps.map fun p : List Nat × Tok => p.1)).length + [34].length ≤ 1000000 := by rw [List.length_append, List.length_singleton]; omega
  refine gu (c_addS [34] (jn [] (List.map (fun x => x.fst) o3.ps)) (tk + 2) t4 hq1) [] [(sz, fra [nt w.params k_way tk (.int 0 tw)] 1), ((sz + 1), cel (.str (S (c :: l)) t)), (it, saX o3.i), (sz2, lst (stv o3.ps) o3.n), ((sz2 + 1), dic [] 2)] sz4 tk4 [] (hA2.le (by decide)) D4 E4 (by generalize w = w'; revert w'; exact tw_fa (by kernel_rfl) (by kernel_rfl)) ⟨by decide, by kernel_rfl, rfl⟩ (fun _ => rfl) fun t5 h5 sz5 tk5 hX5 D5 E5 => ?_
  refine gu (c_addS ([34] ++ jn [] (List.map (fun x => x.fst) o3.ps)) [34] t5 tk5 hq2) [] [(sz, fra [nt w.params k_way tk (.int 0 tw)] 1), ((sz + 1), cel (.str (S (c :: l)) t)), (it, saX o3.i), (sz2, lst (stv o3.ps) o3.n), ((sz2 + 1), dic [] 2)] sz5 (tk5 + 1) [] (hA2.le (by decide)) D5 E5 (by generalize w = w'; revert w'; exact tw_fa (by kernel_rfl) (by kernel_rfl)) ⟨by decide, by kernel_rfl, rfl⟩ (fun _ => rfl) fun t6 h6 sz6 tk6 hX6 D6 E6 => ?_
  have hfin : [34] ++ jn [] (o3.ps.map (·.1)) ++ [34] = spell 0 (c :: l) := by
    rw [hX3, jn_nil, f0_txt, spell, if_pos (.inl rfl)]
    rfl
  exact gf ((t6, [34] ++ jn [] (List.map (fun p => p.fst) o3.ps) ++ [34])) [] [] hA2 D6 E6 (by generalize w = w'; revert w'; exact tw_fa (by kernel_rfl) (by kernel_rfl)) (by decide) rfl (hfin)
theorem c_sp0n (w : World) (t tw : Tok) :
    LCon pw w (G w.params) 18 (spC (S []) t 0 tw) [] (fun o : Tok => ret (.str (S [34, 34]) o)) (fun o => []) (fun o => True) := by
  refine lcon_in rfl fun A hA hA1 h sz tk g d os D E0 => ?_
  refine gd (Code.func (bodOf spS) (spE sz)) [0,0,2,2,1,1] [(sz, fra [nt w.params k_way tk (.int 0 tw)] 1), ((sz + 1), cel (.str nilS t))] (sz + 2) (tk + 1) hA hA1 D E0 (by kernel_rfl) rfl rfl fun h1 hA2 D1 E1 => ?_
  refine gu (c_sit nilS t nil_asc) [1,0,0,2] [(sz, fra [nt w.params k_way tk (.int 0 tw)] 1), ((sz + 1), cel (.str nilS t))] (sz + 2) (tk + 4) [] (hA2.le (by decide)) D1 E1 (by generalize w = w'; revert w'; exact tw_fa (by kernel_rfl) (by kernel_rfl)) ⟨by decide, by kernel_rfl, rfl⟩ (fun _ => rfl) fun it h2 sz2 tk2 hX2 D2 E2 => ?_
  refine gu (LCon.con (sp0_kn w (sz2 + 1) sz it sz2 nilS t rfl)) [3] [(sz, fra [nt w.params k_way tk (.int 0 tw)] 1), ((sz + 1), cel (.str nilS t)), (it, saO nilS t 0), (sz2, lst [] 0), ((sz2 + 1), dic [] 0)] (sz2 + 2) tk2 [4,2,3] (hA2.le (by decide)) D2 E2 (by generalize w = w'; revert w'; exact tw_fa (by kernel_rfl) (by kernel_rfl)) ⟨by decide, by kernel_rfl, rfl⟩ (fun _ => rfl) fun o3 h3 sz3 tk3 hX3 D3 E3 => ?_
  refine gu (c_join [] (tk + 3) sz2 [] 0 (of_decide_eq_true (id (Eq.refl true)))) [5] [(sz, fra [nt w.params k_way tk (.int 0 tw)] 1), ((sz + 1), cel (.str nilS t)), (it, saX 0), (sz2, lst [] 0), ((sz2 + 1), tgD w.params k_sign none)] sz3 tk3 [3] (hA2.le (by decide)) D3 E3 (by generalize w = w'; revert w'; exact tw_fa (by kernel_rfl) (by kernel_rfl)) ⟨by decide, by kernel_rfl, rfl⟩ (fun _ => rfl) fun t4 h4 sz4 tk4 hX4 D4 E4 => ?_
  refine gu (c_addS [34] [] (tk + 2) t4 (of_decide_eq_true (id (Eq.refl true)))) [] [(sz, fra [nt w.params k_way tk (.int 0 tw)] 1), ((sz + 1), cel (.str nilS t)), (it, saX 0), (sz2, lst (stv []) 0), ((sz2 + 1), tgD w.params k_sign none)] sz4 tk4 [] (hA2.le (by decide)) D4 E4 (by generalize w = w'; revert w'; exact tw_fa (by kernel_rfl) (by kernel_rfl)) ⟨by decide, by kernel_rfl, rfl⟩ (fun _ => rfl) fun t5 h5 sz5 tk5 hX5 D5 E5 => ?_
  refine gu (c_addS [34] [34] t5 tk5 (of_decide_eq_true (id (Eq.refl true)))) [] [(sz, fra [nt w.params k_way tk (.int 0 tw)] 1), ((sz + 1), cel (.str nilS t)), (it, saX 0), (sz2, lst (stv []) 0), ((sz2 + 1), tgD w.params k_sign none)] sz5 (tk5 + 1) [] (hA2.le (by decide)) D5 E5 (by generalize w = w'; revert w'; exact tw_fa (by kernel_rfl) (by kernel_rfl)) ⟨by decide, by kernel_rfl, rfl⟩ (fun _ => rfl) fun t6 h6 sz6 tk6 hX6 D6 E6 => ?_
  exact gf (t6) [] [] hA2 D6 E6 (by generalize w = w'; revert w'; exact tw_fa (by kernel_rfl) (by kernel_rfl)) (by decide) rfl (trivial)
theorem c_sp1n (w : World) (t tw : Tok) :
    LCon pw w (G w.params) 18 (spC (S []) t 1 tw) [] (fun o : Tok => ret (.str (S [34, 34]) o)) (fun o => []) (fun o => True) := by
  refine lcon_in rfl fun A hA hA1 h sz tk g d os D E0 => ?_
  refine gd (Code.func (bodOf spS) (spE sz)) [0,0,2,2,1,1] [(sz, fra [nt w.params k_way tk (.int 1 tw)] 1), ((sz + 1), cel (.str nilS t))] (sz + 2) (tk + 1) hA hA1 D E0 (by kernel_rfl) rfl rfl fun h1 hA2 D1 E1 => ?_
  refine gu (c_sit nilS t nil_asc) [1,0,0,2,0,0,2] [(sz, fra [nt w.params k_way tk (.int 1 tw)] 1), ((sz + 1), cel (.str nilS t))] (sz + 2) (tk + 5) [] (hA2.le (by decide)) D1 E1 (by generalize w = w'; revert w'; exact tw_fa (by kernel_rfl) (by kernel_rfl)) ⟨by decide, by kernel_rfl, rfl⟩ (fun _ => rfl) fun it h2 sz2 tk2 hX2 D2 E2 => ?_
  refine gu (LCon.con (sp0_kn w (sz2 + 1) sz it sz2 nilS t rfl)) [3] [(sz, fra [nt w.params k_way tk (.int 1 tw)] 1), ((sz + 1), cel (.str nilS t)), (it, saO nilS t 0), (sz2, lst [] 0), ((sz2 + 1), dic [] 0)] (sz2 + 2) tk2 [4,2,3] (hA2.le (by decide)) D2 E2 (by generalize w = w'; revert w'; exact tw_fa (by kernel_rfl) (by kernel_rfl)) ⟨by decide, by kernel_rfl, rfl⟩ (fun _ => rfl) fun o3 h3 sz3 tk3 hX3 D3 E3 => ?_
  refine gu (c_join [] (tk + 4) sz2 [] 0 (of_decide_eq_true (id (Eq.refl true)))) [5] [(sz, fra [nt w.params k_way tk (.int 1 tw)] 1), ((sz + 1), cel (.str nilS t)), (it, saX 0), (sz2, lst [] 0), ((sz2 + 1), tgD w.params k_sign none)] sz3 tk3 [3] (hA2.le (by decide)) D3 E3 (by generalize w = w'; revert w'; exact tw_fa (by kernel_rfl) (by kernel_rfl)) ⟨by decide, by kernel_rfl, rfl⟩ (fun _ => rfl) fun t4 h4 sz4 tk4 hX4 D4 E4 => ?_
  refine gu (c_addS [34] [] (tk + 3) t4 (of_decide_eq_true (id (Eq.refl true)))) [] [(sz, fra [nt w.params k_way tk (.int 1 tw)] 1), ((sz + 1), cel (.str nilS t)), (it, saX 0), (sz2, lst (stv []) 0), ((sz2 + 1), tgD w.params k_sign none)] sz4 tk4 [] (hA2.le (by decide)) D4 E4 (by generalize w = w'; revert w'; exact tw_fa (by kernel_rfl) (by kernel_rfl)) ⟨by decide, by kernel_rfl, rfl⟩ (fun _ => rfl) fun t5 h5 sz5 tk5 hX5 D5 E5 => ?_
  refine gu (c_addS [34] [34] t5 tk5 (of_decide_eq_true (id (Eq.refl true)))) [] [(sz, fra [nt w.params k_way tk (.int 1 tw)] 1), ((sz + 1), cel (.str nilS t)), (it, saX 0), (sz2, lst (stv []) 0), ((sz2 + 1), tgD w.params k_sign none)] sz5 (tk5 + 1) [] (hA2.le (by decide)) D5 E5 (by generalize w = w'; revert w'; exact tw_fa (by kernel_rfl) (by kernel_rfl)) ⟨by decide, by kernel_rfl, rfl⟩ (fun _ => rfl) fun t6 h6 sz6 tk6 hX6 D6 E6 => ?_
  exact gf (t6) [] [] hA2 D6 E6 (by generalize w = w'; revert w'; exact tw_fa (by kernel_rfl) (by kernel_rfl)) (by decide) rfl (trivial)
theorem c_sp2n (w : World) (t tw : Tok) :
    LCon pw w (G w.params) 18 (spC (S []) t 2 tw) [] (fun o : Tok => ret (.str (S [34, 34]) o)) (fun o => []) (fun o => True) := by
  refine lcon_in rfl fun A hA hA1 h sz tk g d os D E0 => ?_
  refine gd (Code.func (bodOf spS) (spE sz)) [0,0,2,2,1,1] [(sz, fra [nt w.params k_way tk (.int 2 tw)] 1), ((sz + 1), cel (.str nilS t))] (sz + 2) (tk + 1) hA hA1 D E0 (by kernel_rfl) rfl rfl fun h1 hA2 D1 E1 => ?_
  refine gu (c_sit nilS t nil_asc) [1,0,0,2,0,0,2] [(sz, fra [nt w.params k_way tk (.int 2 tw)] 1), ((sz + 1), cel (.str nilS t))] (sz + 2) (tk + 5) [] (hA2.le (by decide)) D1 E1 (by generalize w = w'; revert w'; exact tw_fa (by kernel_rfl) (by kernel_rfl)) ⟨by decide, by kernel_rfl, rfl⟩ (fun _ => rfl) fun it h2 sz2 tk2 hX2 D2 E2 => ?_
  refine gu (LCon.con (sp0_kn w (sz2 + 1) sz it sz2 nilS t rfl)) [3] [(sz, fra [nt w.params k_way tk (.int 2 tw)] 1), ((sz + 1), cel (.str nilS t)), (it, saO nilS t 0), (sz2, lst [] 0), ((sz2 + 1), dic [] 0)] (sz2 + 2) tk2 [4,2,3] (hA2.le (by decide)) D2 E2 (by generalize w = w'; revert w'; exact tw_fa (by kernel_rfl) (by kernel_rfl)) ⟨by decide, by kernel_rfl, rfl⟩ (fun _ => rfl) fun o3 h3 sz3 tk3 hX3 D3 E3 => ?_
  refine gu (c_join [] (tk + 4) sz2 [] 0 (of_decide_eq_true (id (Eq.refl true)))) [5] [(sz, fra [nt w.params k_way tk (.int 2 tw)] 1), ((sz + 1), cel (.str nilS t)), (it, saX 0), (sz2, lst [] 0), ((sz2 + 1), tgD w.params k_sign none)] sz3 tk3 [3] (hA2.le (by decide)) D3 E3 (by generalize w = w'; revert w'; exact tw_fa (by kernel_rfl) (by kernel_rfl)) ⟨by decide, by kernel_rfl, rfl⟩ (fun _ => rfl) fun t4 h4 sz4 tk4 hX4 D4 E4 => ?_
  refine gu (c_addS [34] [] (tk + 3) t4 (of_decide_eq_true (id (Eq.refl true)))) [] [(sz, fra [nt w.params k_way tk (.int 2 tw)] 1), ((sz + 1), cel (.str nilS t)), (it, saX 0), (sz2, lst (stv []) 0), ((sz2 + 1), tgD w.params k_sign none)] sz4 tk4 [] (hA2.le (by decide)) D4 E4 (by generalize w = w'; revert w'; exact tw_fa (by kernel_rfl) (by kernel_rfl)) ⟨by decide, by kernel_rfl, rfl⟩ (fun _ => rfl) fun t5 h5 sz5 tk5 hX5 D5 E5 => ?_
  refine gu (c_addS [34] [34] t5 tk5 (of_decide_eq_true (id (Eq.refl true)))) [] [(sz, fra [nt w.params k_way tk (.int 2 tw)] 1), ((sz + 1), cel (.str nilS t)), (it, saX 0), (sz2, lst (stv []) 0), ((sz2 + 1), tgD w.params k_sign none)] sz5 (tk5 + 1) [] (hA2.le (by decide)) D5 E5 (by generalize w = w'; revert w'; exact tw_fa (by kernel_rfl) (by kernel_rfl)) ⟨by decide, by kernel_rfl, rfl⟩ (fun _ => rfl) fun t6 h6 sz6 tk6 hX6 D6 E6 => ?_
  exact gf (t6) [] [] hA2 D6 E6 (by generalize w = w'; revert w'; exact tw_fa (by kernel_rfl) (by kernel_rfl)) (by decide) rfl (trivial)
theorem c_sp2c (w : World) (c : Nat) (l : List Nat) (t tw : Tok) (ha : (S (c :: l)).cps.all (· < 128) = true) (hl : (c :: l).length ≤ 1000) :
    LCon pw w (G w.params) 18 (spC (S (c :: l)) t 2 tw) [] (fun o : Tok × List Nat => ret (.str (S o.2) o.1)) (fun o => []) (fun o => o.2 = spell 2 (c :: l)) := by
  have hv : l.length + 1 ≤ sizeLine := by rw [List.length_cons] at hl; show _ ≤ 2 ^ 24; omega
  refine lcon_in rfl fun A hA hA1 h sz tk g d os D E0 => ?_
  refine gd (Code.func (bodOf spS) (spE sz)) [0,0,2,2,1,1] [(sz, fra [nt w.params k_way tk (.int 2 tw)] 1), ((sz + 1), cel (.str (S (c :: l)) t))] (sz + 2) (tk + 1) hA hA1 D E0 (by kernel_rfl) rfl rfl fun h1 hA2 D1 E1 => ?_
  refine gu (c_eq (S (c :: l)) nilS t (tk + 2) false rfl) [1,0,0,2] [(sz, fra [nt w.params k_way tk (.int 2 tw)] 1), ((sz + 1), cel (.str (S (c :: l)) t))] (sz + 2) (tk + 3) [] (hA2.le (by decide)) D1 E1 (by generalize w = w'; revert w'; exact tw_fa (by kernel_rfl) (by kernel_rfl)) ⟨by decide, by kernel_rfl, rfl⟩ (fun _ => rfl) fun r2 h2 sz2 tk2 hX2 D2 E2 => ?_
  refine gu (c_sit (S (c :: l)) t ha) [1,0,0,2] [(sz, fra [nt w.params k_way tk (.int 2 tw)] 1), ((sz + 1), cel (.str (S (c :: l)) t))] sz2 (tk2 + 2) [] (hA2.le (by decide)) D2 E2 (by generalize w = w'; revert w'; exact tw_fa (by kernel_rfl) (by kernel_rfl)) ⟨by decide, by kernel_rfl, rfl⟩ (fun _ => rfl) fun it h3 sz3 tk3 hX3 D3 E3 => ?_
  refine gu (LCon.con (sp2_k w (sz3 + 1) sz it sz3 (S (c :: l)) t c l rfl hv)) [3] [(sz, fra [nt w.params k_way tk (.int 2 tw)] 1), ((sz + 1), cel (.str (S (c :: l)) t)), (it, saO (S (c :: l)) t 0), (sz3, lst [] 0), ((sz3 + 1), dic [] 0)] (sz3 + 2) tk3 [4,2,3] (hA2.le (by decide)) D3 E3 (by generalize w = w'; revert w'; exact tw_fa (by kernel_rfl) (by kernel_rfl)) ⟨by decide, by kernel_rfl, rfl⟩ (fun _ => rfl) fun o4 h4 sz4 tk4 hX4 D4 E4 => ?_
  have hj : tot ([] : List Nat).length (o4.ps.map (·.1)) ≤ 1000000 := by rw [hX4]; exact tot_f f2 len_f2 _ hl
  refine gu (c_join [] (tk2 + 1) sz3 o4.ps o4.n hj) [5,5,5] [(sz, fra [nt w.params k_way tk (.int 2 tw)] 1), ((sz + 1), cel (.str (S (c :: l)) t)), (it, saX o4.i), (sz3, lst ([] ++ stv o4.ps) o4.n), ((sz3 + 1), dic [] 2)] sz4 tk4 [3] (hA2.le (by decide)) D4 E4 (by generalize w = w'; revert w'; exact tw_fa (by kernel_rfl) (by kernel_rfl)) ⟨by decide, by kernel_rfl, rfl⟩ (fun _ => rfl) fun t5 h5 sz5 tk5 hX5 D5 E5 => ?_
  have hfin : jn [] (o4.ps.map (·.1)) = spell 2 (c :: l) := by
    rw [hX4, jn_nil, f2_txt, spell, if_neg (by simp), if_neg (by decide)]
  exact gf ((t5, jn [] (List.map (fun p => p.fst) o4.ps))) [] [] hA2 D5 E5 (by generalize w = w'; revert w'; exact tw_fa (by kernel_rfl) (by kernel_rfl)) (by decide) rfl (hfin)
theorem c_sp1c (w : World) (c : Nat) (l : List Nat) (t tw : Tok) (N : Nat) (hN : (c :: l).length = N) (hl : N ≤ 1000) (hl' : N < 1000000) :
    LCon pw w (G w.params) 18 (spC (S (c :: l)) t 1 tw) [] (fun o : Tok × List Nat => ret (.str (S o.2) o.1)) (fun o => []) (fun o => o.2 = spell 1 (c :: l)) := by
  refine lcon_in rfl fun A hA hA1 h sz tk g d os D E0 => ?_
  refine gd (Code.func (bodOf spS) (spE sz)) [0,0,2,2,1,1] [(sz, fra [nt w.params k_way tk (.int 1 tw)] 1), ((sz + 1), cel (.str (S (c :: l)) t))] (sz + 2) (tk + 1) hA hA1 D E0 (by kernel_rfl) rfl rfl fun h1 hA2 D1 E1 => ?_
  refine gu (c_eq (S (c :: l)) nilS t (tk + 2) false rfl) [1,0,0,2] [(sz, fra [nt w.params k_way tk (.int 1 tw)] 1), ((sz + 1), cel (.str (S (c :: l)) t))] (sz + 2) (tk + 3) [] (hA2.le (by decide)) D1 E1 (by generalize w = w'; revert w'; exact tw_fa (by kernel_rfl) (by kernel_rfl)) ⟨by decide, by kernel_rfl, rfl⟩ (fun _ => rfl) fun r2 h2 sz2 tk2 hX2 D2 E2 => ?_
  refine gu (c_slen (c :: l) t N hN hl') [1,0,0,0,0,0,0,2] [(sz, fra [nt w.params k_way tk (.int 1 tw)] 1), ((sz + 1), cel (.str (S (c :: l)) t))] sz2 (tk2 + 2) [] (hA2.le (by decide)) D2 E2 (by generalize w = w'; revert w'; exact tw_fa (by kernel_rfl) (by kernel_rfl)) ⟨by decide, by kernel_rfl, rfl⟩ (fun _ => rfl) fun r3 h3 sz3 tk3 hX3 D3 E3 => ?_
  refine gu (c_rng (↑N) r3) [] [(sz, fra [nt w.params k_way tk (.int 1 tw)] 1), ((sz + 1), cel (.str (S (c :: l)) t))] sz3 tk3 [] (hA2.le (by decide)) D3 E3 (by generalize w = w'; revert w'; exact tw_fa (by kernel_rfl) (by kernel_rfl)) ⟨by decide, by kernel_rfl, rfl⟩ (fun _ => rfl) fun r4 h4 sz4 tk4 hX4 D4 E4 => ?_
  refine gu (c_rit r4.fst N r3 r4.snd.fst r4.snd.snd hl') [3,3] [(sz, fra [nt w.params k_way tk (.int 1 tw)] 1), ((sz + 1), cel (.str (S (c :: l)) t)), (r4.1, rnO (↑N) r3 r4.snd.fst r4.snd.snd)] sz4 tk4 [2] (hA2.le (by decide)) D4 E4 (by generalize w = w'; revert w'; exact tw_fa (by kernel_rfl) (by kernel_rfl)) ⟨by decide, by kernel_rfl, rfl⟩ (fun _ => rfl) fun it h5 sz5 tk5 hX5 D5 E5 => ?_
  have e0 : s1F w.params (sz5 + 1) it sz5 (sz + 1) (c :: l) t N 0 none 0 [] = [(sz5 + 1, dic [] 0), (it, rgO 0 N), (sz5, lst [] 0), (sz + 1, cel (.str (S (c :: l)) t))] := by
    unfold s1F
    rw [show (N : Int) - ((0 : Nat) : Int) = N from Int.sub_zero _]
    rfl
  have K := sp1_k w (sz5 + 1) sz it sz5 (sz + 1) (c :: l) t N hN (by rw [← hN]; exact Nat.succ_pos _) hl
  rw [e0] at K
  refine gu (LCon.con K) [4] [(sz, fra [nt w.params k_way tk (.int 1 tw)] 1), ((sz + 1), cel (.str (S (c :: l)) t)), (r4.1, rnO (↑N) r3 r4.snd.fst r4.snd.snd), (it, rgO 0 ↑N), (sz5, lst [] 0), ((sz5 + 1), dic [] 0)] (sz5 + 2) tk5 [5,3,4,1] (hA2.le (by decide)) D5 E5 (by generalize w = w'; revert w'; exact tw_fa (by kernel_rfl) (by kernel_rfl)) ⟨by decide, by kernel_rfl, rfl⟩ (fun _ => rfl) fun o6 h6 sz6 tk6 hX6 D6 E6 => ?_
  have hj : tot ([] : List Nat).length (o6.ps.map (·.1)) ≤ 1000000 := by rw [hX6]; exact tot_f _ (fun i => len_f1 _ _) _ (by rw [List.length_range']; exact hl)
  refine gu (c_join [] (tk2 + 1) sz5 o6.ps o6.n hj) [6,6,6] [(sz, fra [nt w.params k_way tk (.int 1 tw)] 1), ((sz + 1), cel (.str (S (c :: l)) t)), (r4.1, rnO (↑N) r3 r4.snd.fst r4.snd.snd), (it, rgO (↑N) 0), (sz5, lst (stv o6.ps) o6.n), ((sz5 + 1), dic [] 2)] sz6 tk6 [4] (hA2.le (by decide)) D6 E6 (by generalize w = w'; revert w'; exact tw_fa (by kernel_rfl) (by kernel_rfl)) ⟨by decide, by kernel_rfl, rfl⟩ (fun _ => rfl) fun t7 h7 sz7 tk7 hX7 D7 E7 => ?_
  have hfin : jn [] (o6.ps.map (·.1)) = spell 1 (c :: l) := by
    rw [hX6, jn_nil, ← hN, f1_txt, spell, if_neg (by simp), if_pos rfl]
  exact gf ((t7, jn [] (List.map (fun p => p.fst) o6.ps))) [] [] hA2 D7 E7 (by generalize w = w'; revert w'; exact tw_fa (by kernel_rfl) (by kernel_rfl)) (by decide) rfl (hfin)
/-- _law_spelled -/
theorem c_sp (w : World) (u : List Nat) (t tw : Tok) (way : Nat) (hw : way < 3) (ha : ∀ c ∈ u, c < 128) (hl : u.length ≤ 1000) :
    LCon pw w (G w.params) 18 (spC (S u) t way tw) [] (fun o : Tok => ret (.str (S (spell way u)) o)) (fun o => []) (fun o => True) := by
  have ha' : (S u).cps.all (· < 128) = true := by
    show (⟨u⟩ : Array Nat).all (· < 128) = true
    simp only [List.all_toArray, List.all_eq_true, decide_eq_true_eq]
    exact ha
  cases u with
  | nil =>
    match way, hw with
    | 0, _ => exact c_sp0n w t tw
    | 1, _ => exact c_sp1n w t tw
    | 2, _ => exact c_sp2n w t tw
  | cons c l =>
    match way, hw with
    | 0, _ => exact (c_sp0c w c l t tw ha' hl).map (·.1) fun o e => ⟨by rw [e], rfl, trivial⟩
    | 1, _ => exact (c_sp1c w c l t tw _ rfl hl (by omega)).map (·.1) fun o e => ⟨by rw [e], rfl, trivial⟩
    | 2, _ => exact (c_sp2c w c l t tw ha' hl).map (·.1) fun o e => ⟨by rw [e], rfl, trivial⟩
end Mine
end
set_option maxHeartbeats 1000000
noncomputable section
namespace Mine
theorem walk2 {prog : Program} {w : World} {G : Nat → Option Obj} {lev : Nat} {code : Code} {σ : Type} (F : Nat → σ → List Value → Facts) (fin : σ → List Value → Facts) (I : Nat → σ → List Value → Prop) (V : Nat → List Value → Prop) (N : Nat)
    (step : ∀ (i : Nat) (s : σ) (vs : List Value) (β : Type) (fs2 : β → Facts) (X : β → Prop), I i s vs → i < N →
      (∀ s' us, I (i + 1) s' (vs ++ us) → V i us → LCon prog w G lev code (F (i + 1) s' (vs ++ us)) (fun _ => .ok .next) fs2 X) → LCon prog w G lev code (F i s vs) (fun _ => .ok .next) fs2 X)
    (stop : ∀ (s : σ) (vs : List Value), I N s vs → LCon prog w G lev code (F N s vs) (fun _ : σ => .ok .next) (fun s' => fin s' vs) (fun s' => I N s' vs)) :
    ∀ (k i : Nat) (s : σ) (vs : List Value), i + k = N → I i s vs →
      LCon prog w G lev code (F i s vs) (fun _ : σ × List Value => .ok .next) (fun r => fin r.1 (vs ++ r.2)) (fun r => Gl V i k r.2 ∧ I N r.1 (vs ++ r.2))
  | 0, i, s, vs, hk, hi => by
    cases hk
    refine (stop s vs hi).map (fun y => (y, [])) fun y hy => ?_
    have e : vs ++ [] = vs := List.append_nil vs
    exact ⟨rfl, by show fin y vs = fin y (vs ++ []); rw [e], .nil _, by show I _ y (vs ++ []); rw [e]; exact hy⟩
  | k + 1, i, s, vs, hk, hi => by
    refine step i s vs _ _ _ hi (by omega) fun s' us hi' hu => ?_
    refine (walk2 F fin I V N step stop k (i + 1) s' (vs ++ us) (by omega) hi').map (fun y => (y.1, us ++ y.2)) fun y hy => ?_
    have e : vs ++ us ++ y.2 = vs ++ (us ++ y.2) := List.append_assoc _ _ _
    exact ⟨rfl, by show fin y.1 _ = fin y.1 (vs ++ (us ++ y.2)); rw [e], .cons hu hy.1, by show I _ y.1 (vs ++ (us ++ y.2)); rw [← e]; exact hy.2⟩
/-! ## a third row of the world: what an f-string hands on -/
noncomputable def tf (v : World) (b : Bool) : World := { v with params := { v.params with followText := fun s => match instDecidableEqString s "fstring-hands-on-the-str" with
  | .isTrue _ => b
  | .isFalse _ => v.params.followText s } }
theorem tf_self (w : World) : tf w (w.params.followText "fstring-hands-on-the-str") = w := by
  obtain ⟨dr, P⟩ := w
  show (⟨dr, { P with followText := _ }⟩ : World) = ⟨dr, P⟩
  congr 1
  cases P
  congr 1
  funext s
  dsimp only
  split
  · rename_i h _; rw [h]
  · rfl
theorem tf_all {p : World → Prop} (ht : ∀ v, p (tf v true)) (hf : ∀ v, p (tf v false)) (w : World) : p w := by
  rw [← tf_self w]
  cases w.params.followText "fstring-hands-on-the-str" with
  | true => exact ht w
  | false => exact hf w
section
variable {prog : Program} {w : World} {G : Nat → Option Obj}
theorem c_modN (a b : Nat) (t u : Tok) (hb : b ≠ 0) : Con prog w G 0 (.call (.builtin "int.__mod__") ⟨[.int a t, .int b u], []⟩) [] (fun t' : Tok => ret (.int ((a % b : Nat) : Int) t')) (fun _ => []) (fun _ => True) := by
  have := c_mod (prog := prog) (w := w) (G := G) (a : Int) (b : Int) t u (by omega)
  rw [Int.fmod_eq_emod_of_nonneg _ (by omega), ← Int.natCast_emod] at this
  exact this
end
end Mine
end
set_option maxHeartbeats 1000000
noncomputable section
namespace Mine
/-! ## Entry -/
noncomputable def eiS : Stmt := inCls 4 0
noncomputable def eiQ : Str := S [69,110,116,114,121,46,95,95,105,110,105,116,95,95]
noncomputable def eiE (L : Addr) : Env := envD (scoOf eiS) eiQ L 77 [] (.ref 76)
structure EX where
  (x xd ua rl : Addr)
  (e1 e2 e3 e4 : Tok)
noncomputable def enD (P : Params) (e : EX) (dv rv : Value) : Obj := dic [nt P k_useragents e.e1 (.ref e.ua), nt P k_rulelines e.e2 (.ref e.rl), nt P k_delay e.e3 dv, nt P k_req_rate e.e4 rv] 4
noncomputable def EX.fs (e : EX) (P : Params) (dv rv : Value) (vs : List Value) (n : Nat) : Facts := [(e.x, ⟨.ref 101, some e.xd, .plain, #[]⟩), (e.xd, enD P e dv rv), (e.ua, lst vs n), (e.rl, lst [] 0)]
theorem c_ei (w : World) (x xd : Addr) :
    LCon pw w (G w.params) 4 (.call (.ref 77) ⟨[.ref x], []⟩) [(x, ⟨.ref 101, some xd, .plain, #[]⟩), (xd, dic [] 0)] (fun o : EX => ret .none) (fun o => [(x, ⟨.ref 101, some xd, .plain, #[]⟩), (xd, enD w.params o .none .none), (o.ua, lst [] 0), (o.rl, lst [] 0)]) (fun _ => True) := by
  refine lcon_in rfl fun A hA hA1 h sz tk g d os D E0 => ?_
  refine gd (Code.func (bodOf eiS) (eiE sz)) [0,0,3,3] [(x, (⟨(.ref 101), some xd, .plain, #[]⟩ : Obj)), (xd, dic [] 0), (sz, fra [nt w.params k_self tk (.ref x)] 1)] (sz + 1) (tk + 1) hA hA1 D E0 (by kernel_rfl) rfl rfl fun h1 hA2 D1 E1 => ?_
  exact gf ({ x := x, xd := xd, ua := sz + 1, rl := sz + 2, e1 := tk + 2, e2 := tk + 4, e3 := tk + 6, e4 := tk + 8 }) [3,1,0,0,0,0,1,0,0,1,0,1,0,0,0,1,0,2,2,2,3,1,0,0,0,0,1,0,0,1,0,1,0,0,0,1,0,2,2,2,3,1,0,0,0,0,1,0,0,1,0,1,0,0,0,1,0,2,2,2,3,1,0,0,0,0,1,0,0,1,0,1,0,0,0,1,0,2,2,2] [0,1,3,4] hA2 D1 E1 (by kernel_rfl) (by decide) rfl (trivial)
theorem c_en (w : World) :
    LCon pw w (G w.params) 8 (.call (.ref 101) ⟨[], []⟩) [] (fun o : EX => ret (.ref o.x)) (fun o => o.fs w.params .none .none [] 0) (fun _ => True) := by
  refine lcon_in rfl fun A hA hA1 h sz tk g d os D E0 => ?_
  refine gt (Code.call (.builtin "type.__call__") { pos := [.ref 101] }) [0,0] [] sz tk hA hA1 D E0 (by kernel_rfl) (by kernel_rfl) (by kernel_rfl) fun h1 hA2 D1 E1 => ?_
  refine gt (Code.builtin "type.__call__" { pos := [.ref 101] }) [0] [] sz tk hA2 hA1 D1 E1 (by kernel_rfl) (by kernel_rfl) (by kernel_rfl) fun h2 hA3 D2 E2 => ?_
  refine gu (LCon.con (c_ei w (sz + 1) sz)) [0,0,0,0,0,0,0,0,0,0,0,0,0,0,0,0,0,0,0,0,2,0,2,0,0,0,0] [(sz, dic [] 0), ((sz + 1), (⟨(.ref 101), some sz, .plain, #[]⟩ : Obj))] (sz + 2) tk [1,0] (hA3.le (by decide)) D2 E2 (by kernel_rfl) ⟨by decide, by kernel_rfl, rfl⟩ (fun _ => rfl) fun o h3 sz3 tk3 hX3 D3 E3 => ?_
  exact gf ({ x := sz + 1, xd := sz, ua := o.ua, rl := o.rl, e1 := o.e1, e2 := o.e2, e3 := o.e3, e4 := o.e4 }) [] [1,0,2,3] hA3 D3 E3 (by kernel_rfl) (by decide) rfl (trivial)
/-! ## _law_text -/
noncomputable def txS : Stmt := stm 8
noncomputable def txQ : Str := S [95,108,97,119,95,116,101,120,116]
noncomputable def txE (L : Addr) : Env := envD (scoOf txS) txQ L 122 [] (.ref 121)
noncomputable def txC (a : Addr) (dv rv : Value) : Code := .call (.ref 122) ⟨[.ref a, dv, rv], []⟩
noncomputable def tx1 : Stmt := (bodOf txS).getD 1 nop
noncomputable def txL (L it : Addr) : Code := .forLoop (forT tx1) (.ref it) (forB tx1) [] (txE L)
structure TX where
  (L a it : Addr)
  (b1 b2 b3 b4 : Tok)
  (dv rv : Value)
noncomputable def txF (P : Params) (e : EX) (y : TX) (o : Option (Tok × Str × Tok)) : Obj := match o with
  | none => fra [nt P k_agents y.b1 (.ref y.a), nt P k_delay y.b2 y.dv, nt P k_rate y.b3 y.rv, nt P k_entry y.b4 (.ref e.x)] 4
  | some (c, u, t) => fra [nt P k_agents y.b1 (.ref y.a), nt P k_delay y.b2 y.dv, nt P k_rate y.b3 y.rv, nt P k_entry y.b4 (.ref e.x), nt P k_agent c (.str u t)] 5
noncomputable def txFs (P : Params) (e : EX) (y : TX) (ito : Obj) (avs : List Value) (an : Nat) (o : Option (Tok × Str × Tok)) (vs : List Value) (n : Nat) : Facts :=
  (y.L, txF P e y o) :: (y.it, ito) :: (y.a, lst avs an) :: e.fs P .none .none vs n
theorem tx_step (w : World) (e : EX) (y : TX) (avs : List Value) (an i : Nat) (u : List Nat) (t : Tok) (hi : avs[i]? = some (.str (S u) t)) (ha : ∀ c ∈ u, c < 128) (hu : u.length ≤ 1000) (o : Option (Tok × Str × Tok)) (vs : List Value) (n : Nat) (hv : vs.length = i) (hv1 : i < 1000000) (hv2 : vs.length ≤ sizeLine) (β : Type) (fs2 : β → Facts) (X : β → Prop)
    (IH : ∀ (c t' : Tok) (n : Nat), LCon pw w (G w.params) 20 (txL y.L y.it) (txFs w.params e y (liO y.a (i + 1)) avs an (some (c, S u, t)) (vs ++ [.str (S (spell (i % 3) u)) t']) n) (fun _ => .ok .next) fs2 X) :
    LCon pw w (G w.params) 20 (txL y.L y.it) (txFs w.params e y (liO y.a i) avs an o vs n) (fun _ => .ok .next) fs2 X := by
  have hw : i % 3 < 3 := Nat.mod_lt _ (by decide)
  have h3 : (3 : Nat) ≠ 0 := by decide
  rcases o with _ | ⟨a, ch, tc⟩
  · refine lcon_in rfl fun A hA hA1 h sz tk g d os D E0 => ?_
    refine gu (c_lnx y.it y.a avs an i (.str (S u) t) hi) [2] [(y.1, txF w.params e y none), (y.3, liO y.a i), (y.2, lst avs an), (e.1, (⟨(.ref 101), some e.2, .plain, #[]⟩ : Obj)), (e.2, enD w.params e .none .none), (e.3, lst vs n), (e.4, lst [] 0)] sz tk [1,2] (hA.le (by decide)) D E0 (by kernel_rfl) ⟨by decide, by kernel_rfl, rfl⟩ (fun _ => rfl) fun r1 h1 sz1 tk1 hX1 D1 E1 => ?_
    refine gu (c_llen e.ua vs n i hv hv1) [1,1,1,4,0,0,0,0,4,0,0,0,4,4,0,5,6,6,6,6,0,1,0,0,1,4,0,0,0,0,4,0,0,0,4,4,0,5] [(y.1, fra [nt w.params k_agents y.4 (.ref y.2), nt w.params k_delay y.5 (y.8), nt w.params k_rate y.6 (y.9), nt w.params k_entry y.7 (.ref e.1), nt w.params k_agent tk1 (.str (S u) t)] 5), (y.3, liO y.a (i + 1)), (y.2, lst avs an), (e.1, (⟨(.ref 101), some e.2, .plain, #[]⟩ : Obj)), (e.2, enD w.params e .none .none), (e.3, lst vs n), (e.4, lst [] 0)] sz1 (tk1 + 3) [5] (hA.le (by decide)) D1 E1 (by kernel_rfl) ⟨by decide, by kernel_rfl, rfl⟩ (fun _ => rfl) fun t2 h2 sz2 tk2 hX2 D2 E2 => ?_
    refine gu (c_modN i 3 t2 tk2 h3) [] [(y.1, fra [nt w.params k_agents y.b1 (.ref y.a), nt w.params k_delay y.b2 y.dv, nt w.params k_rate y.b3 y.rv, nt w.params k_entry y.b4 (.ref e.x), nt w.params k_agent tk1 (.str (S u) t)] 5), (y.3, liO y.a (i + 1)), (y.2, lst avs an), (e.1, (⟨(.ref 101), some e.2, .plain, #[]⟩ : Obj)), (e.2, enD w.params e .none .none), (e.3, lst vs n), (e.4, lst [] 0)] sz2 (tk2 + 1) [] (hA.le (by decide)) D2 E2 (by kernel_rfl) ⟨by decide, by kernel_rfl, rfl⟩ (fun _ => rfl) fun t3 h3 sz3 tk3 hX3 D3 E3 => ?_
    refine gu (LCon.con (c_sp w u t t3 (i % 3) hw ha hu)) [0] [(y.1, fra [nt w.params k_agents y.b1 (.ref y.a), nt w.params k_delay y.b2 y.dv, nt w.params k_rate y.b3 y.rv, nt w.params k_entry y.b4 (.ref e.x), nt w.params k_agent tk1 (.str (S u) t)] 5), (y.3, liO y.a (i + 1)), (y.2, lst avs an), (e.1, (⟨(.ref 101), some e.2, .plain, #[]⟩ : Obj)), (e.2, enD w.params e .none .none), (e.3, lst vs n), (e.4, lst [] 0)] sz3 tk3 [] (hA.le (by decide)) D3 E3 (by kernel_rfl) ⟨by decide, by kernel_rfl, rfl⟩ (fun _ => rfl) fun t4 h4 sz4 tk4 hX4 D4 E4 => ?_
    refine gu (c_append e.ua (.str (S (spell (i % 3) u)) t4) vs n hv2) [] [(y.1, fra [nt w.params k_agents y.b1 (.ref y.a), nt w.params k_delay y.b2 y.dv, nt w.params k_rate y.b3 y.rv, nt w.params k_entry y.b4 (.ref e.x), nt w.params k_agent tk1 (.str (S u) t)] 5), (y.3, liO y.a (i + 1)), (y.2, lst avs an), (e.1, (⟨(.ref 101), some e.2, .plain, #[]⟩ : Obj)), (e.2, enD w.params e .none .none), (e.3, lst vs n), (e.4, lst [] 0)] sz4 tk4 [5] (hA.le (by decide)) D4 E4 (by kernel_rfl) ⟨by decide, by kernel_rfl, rfl⟩ (fun _ => rfl) fun r5 h5 sz5 tk5 hX5 D5 E5 => ?_
    exact ga (IH tk1 t4 (n + 1)) [] [0,1,2,3,4,5,6] hA (hA1.le (by decide)) D5 E5 (by kernel_rfl) (by decide) rfl
  · refine lcon_in rfl fun A hA hA1 h sz tk g d os D E0 => ?_
    refine gu (c_lnx y.it y.a avs an i (.str (S u) t) hi) [2] [(y.1, txF w.params e y (some (a, ch, tc))), (y.3, liO y.a i), (y.2, lst avs an), (e.1, (⟨(.ref 101), some e.2, .plain, #[]⟩ : Obj)), (e.2, enD w.params e .none .none), (e.3, lst vs n), (e.4, lst [] 0)] sz tk [1,2] (hA.le (by decide)) D E0 (by kernel_rfl) ⟨by decide, by kernel_rfl, rfl⟩ (fun _ => rfl) fun r1 h1 sz1 tk1 hX1 D1 E1 => ?_
    refine gu (c_llen e.ua vs n i hv hv1) [1,1,1,4,0,0,0,0,4,0,0,0,4,4,0,5,6,6,6,6,0,1,0,0,1,4,0,0,0,0,4,0,0,0,4,4,0,5] [(y.1, fra [nt w.params k_agents y.4 (.ref y.2), nt w.params k_delay y.5 (y.8), nt w.params k_rate y.6 (y.9), nt w.params k_entry y.7 (.ref e.1), nt w.params k_agent a (.str (S u) t)] 5), (y.3, liO y.a (i + 1)), (y.2, lst avs an), (e.1, (⟨(.ref 101), some e.2, .plain, #[]⟩ : Obj)), (e.2, enD w.params e .none .none), (e.3, lst vs n), (e.4, lst [] 0)] sz1 (tk1 + 3) [5] (hA.le (by decide)) D1 E1 (by kernel_rfl) ⟨by decide, by kernel_rfl, rfl⟩ (fun _ => rfl) fun t2 h2 sz2 tk2 hX2 D2 E2 => ?_
    refine gu (c_modN i 3 t2 tk2 h3) [] [(y.1, fra [nt w.params k_agents y.b1 (.ref y.a), nt w.params k_delay y.b2 y.dv, nt w.params k_rate y.b3 y.rv, nt w.params k_entry y.b4 (.ref e.x), nt w.params k_agent a (.str (S u) t)] 5), (y.3, liO y.a (i + 1)), (y.2, lst avs an), (e.1, (⟨(.ref 101), some e.2, .plain, #[]⟩ : Obj)), (e.2, enD w.params e .none .none), (e.3, lst vs n), (e.4, lst [] 0)] sz2 (tk2 + 1) [] (hA.le (by decide)) D2 E2 (by kernel_rfl) ⟨by decide, by kernel_rfl, rfl⟩ (fun _ => rfl) fun t3 h3 sz3 tk3 hX3 D3 E3 => ?_
    refine gu (LCon.con (c_sp w u t t3 (i % 3) hw ha hu)) [0] [(y.1, fra [nt w.params k_agents y.b1 (.ref y.a), nt w.params k_delay y.b2 y.dv, nt w.params k_rate y.b3 y.rv, nt w.params k_entry y.b4 (.ref e.x), nt w.params k_agent a (.str (S u) t)] 5), (y.3, liO y.a (i + 1)), (y.2, lst avs an), (e.1, (⟨(.ref 101), some e.2, .plain, #[]⟩ : Obj)), (e.2, enD w.params e .none .none), (e.3, lst vs n), (e.4, lst [] 0)] sz3 tk3 [] (hA.le (by decide)) D3 E3 (by kernel_rfl) ⟨by decide, by kernel_rfl, rfl⟩ (fun _ => rfl) fun t4 h4 sz4 tk4 hX4 D4 E4 => ?_
    refine gu (c_append e.ua (.str (S (spell (i % 3) u)) t4) vs n hv2) [] [(y.1, fra [nt w.params k_agents y.b1 (.ref y.a), nt w.params k_delay y.b2 y.dv, nt w.params k_rate y.b3 y.rv, nt w.params k_entry y.b4 (.ref e.x), nt w.params k_agent a (.str (S u) t)] 5), (y.3, liO y.a (i + 1)), (y.2, lst avs an), (e.1, (⟨(.ref 101), some e.2, .plain, #[]⟩ : Obj)), (e.2, enD w.params e .none .none), (e.3, lst vs n), (e.4, lst [] 0)] sz4 tk4 [5] (hA.le (by decide)) D4 E4 (by kernel_rfl) ⟨by decide, by kernel_rfl, rfl⟩ (fun _ => rfl) fun r5 h5 sz5 tk5 hX5 D5 E5 => ?_
    exact ga (IH a t4 (n + 1)) [] [0,1,2,3,4,5,6] hA (hA1.le (by decide)) D5 E5 (by kernel_rfl) (by decide) rfl
theorem tx_stop (w : World) (e : EX) (y : TX) (avs : List Value) (an i : Nat) (hi : avs[i]? = none) (o : Option (Tok × Str × Tok)) (vs : List Value) (n : Nat) :
    LCon pw w (G w.params) 20 (txL y.L y.it) (txFs w.params e y (liO y.a i) avs an o vs n) (fun _ : Unit => .ok .next) (fun _ => txFs w.params e y (liX i) avs an o vs n) (fun _ => True) := by
  rcases o with _ | ⟨a, ch, tc⟩
  · refine lcon_in rfl fun A hA hA1 h sz tk g d os D E0 => ?_
    refine gu (c_lnE y.it y.a avs an i hi) [2] [(y.1, txF w.params e y none), (y.3, liO y.a i), (y.2, lst avs an), (e.1, (⟨(.ref 101), some e.2, .plain, #[]⟩ : Obj)), (e.2, enD w.params e .none .none), (e.3, lst vs n), (e.4, lst [] 0)] sz tk [1,2] (hA.le (by decide)) D E0 (by kernel_rfl) ⟨by decide, by kernel_rfl, rfl⟩ (fun _ => rfl) fun y1 h1 sz1 tk1 hX1 D1 E1 => ?_
    refine gt (Code.block [] (txE y.L)) [9] [(y.1, txF w.params e y none), (y.3, liX i), (y.2, lst avs an), (e.1, (⟨(.ref 101), some e.2, .plain, #[]⟩ : Obj)), (e.2, enD w.params e .none .none), (e.3, lst vs n), (e.4, lst [] 0), (y1.1, tup []), (y1.2, excO y1.fst)] sz1 tk1 hA hA1 D1 E1 (by kernel_rfl) (by kernel_rfl) (by kernel_rfl) fun h2 hA2 D2 E2 => ?_
    exact gf (()) [] [0,1,2,3,4,5,6] hA2 D2 E2 (by kernel_rfl) (by decide) rfl (trivial)
  · refine lcon_in rfl fun A hA hA1 h sz tk g d os D E0 => ?_
    refine gu (c_lnE y.it y.a avs an i hi) [2] [(y.1, txF w.params e y (some (a, ch, tc))), (y.3, liO y.a i), (y.2, lst avs an), (e.1, (⟨(.ref 101), some e.2, .plain, #[]⟩ : Obj)), (e.2, enD w.params e .none .none), (e.3, lst vs n), (e.4, lst [] 0)] sz tk [1,2] (hA.le (by decide)) D E0 (by kernel_rfl) ⟨by decide, by kernel_rfl, rfl⟩ (fun _ => rfl) fun y1 h1 sz1 tk1 hX1 D1 E1 => ?_
    refine gt (Code.block [] (txE y.L)) [9] [(y.1, txF w.params e y (some (a, ch, tc))), (y.3, liX i), (y.2, lst avs an), (e.1, (⟨(.ref 101), some e.2, .plain, #[]⟩ : Obj)), (e.2, enD w.params e .none .none), (e.3, lst vs n), (e.4, lst [] 0), (y1.1, tup []), (y1.2, excO y1.fst)] sz1 tk1 hA hA1 D1 E1 (by kernel_rfl) (by kernel_rfl) (by kernel_rfl) fun h2 hA2 D2 E2 => ?_
    exact gf (()) [] [0,1,2,3,4,5,6] hA2 D2 E2 (by kernel_rfl) (by decide) rfl (trivial)
/-! ## str(entry) -/
noncomputable def esS : Stmt := inCls 4 1
noncomputable def esQ : Str := S [69,110,116,114,121,46,95,95,115,116,114,95,95]
noncomputable def esE (L : Addr) : Env := envD (scoOf esS) esQ L 84 [] (.ref 83)
end Mine
end
set_option maxHeartbeats 1000000
noncomputable section
namespace Mine
noncomputable def es2 : Stmt := (bodOf esS).getD 2 nop
noncomputable def esL (L it : Addr) : Code := .forLoop (forT es2) (.ref it) (forB es2) [] (esE L)
noncomputable def esF (P : Params) (x rt : Addr) (b1 b2 : Tok) (o : Option (Tok × Str × Tok)) : Obj := match o with
  | none => fra [nt P k_self b1 (.ref x), nt P k_ret b2 (.ref rt)] 2
  | some (c, u, t) => fra [nt P k_self b1 (.ref x), nt P k_ret b2 (.ref rt), nt P k_agent c (.str u t)] 3
noncomputable def esFs (P : Params) (L it ua rt x : Addr) (b1 b2 : Tok) (ito : Obj) (avs : List Value) (an : Nat) (o : Option (Tok × Str × Tok)) (vs : List Value) (n : Nat) : Facts :=
  [(L, esF P x rt b1 b2 o), (it, ito), (ua, lst avs an), (rt, lst vs n)]
noncomputable def tUAs : List Nat := [85,115,101,114,45,97,103,101,110,116,58,32]
theorem es_step1 (w : World) (L it ua rt x : Addr) (b1 b2 : Tok) (avs : List Value) (an i : Nat) (c1 : Nat) (t : Tok) (hi : avs[i]? = some (.str (S [c1]) t)) (o : Option (Tok × Str × Tok)) (vs : List Value) (n : Nat) (hv2 : vs.length ≤ sizeLine) (β : Type) (fs2 : β → Facts) (X : β → Prop)
    (IH : ∀ (c t' : Tok) (n : Nat), LCon pw w (G w.params) 12 (esL L it) (esFs w.params L it ua rt x b1 b2 (liO ua (i + 1)) avs an (some (c, S [c1], t)) (vs ++ [.str (S (tUAs ++ [c1])) t']) n) (fun _ => .ok .next) fs2 X) :
    LCon pw w (G w.params) 12 (esL L it) (esFs w.params L it ua rt x b1 b2 (liO ua i) avs an o vs n) (fun _ => .ok .next) fs2 X := by
  induction w using tf_all with
  | ht w =>
    rcases o with _ | ⟨a, ch, tc⟩
    · refine lcon_in rfl fun A hA hA1 h sz tk g d os D E0 => ?_
      refine gu (c_lnx it ua avs an i (.str (S [c1]) t) hi) [2] [(L, esF (tf w true).params x rt b1 b2 none), (it, liO ua i), (ua, lst avs an), (rt, lst vs n)] sz tk [1,2] (hA.le (by decide)) D E0 (by kernel_rfl) ⟨by decide, by kernel_rfl, rfl⟩ (fun _ => rfl) fun r1 h1 sz1 tk1 hX1 D1 E1 => ?_
      refine gu (c_append rt (.str (S (tUAs ++ [c1])) (tk1 + 3)) vs n hv2) [1,1,1,4,4,4,4,1] [(L, fra [nt w.params k_self b1 (.ref x), nt w.params k_ret b2 (.ref rt), nt w.params k_agent tk1 (.str (S [c1]) t)] 3), (it, liO ua (i + 1)), (ua, lst avs an), (rt, lst vs n)] sz1 (tk1 + 4) [3] (hA.le (by decide)) D1 E1 (by kernel_rfl) ⟨by decide, by kernel_rfl, rfl⟩ (fun _ => rfl) fun r2 h2 sz2 tk2 hX2 D2 E2 => ?_
      exact ga (IH tk1 (tk1 + 3) (n + 1)) [] [0,1,2,3] hA (hA1.le (by decide)) D2 E2 (by kernel_rfl) (by decide) rfl
    · refine lcon_in rfl fun A hA hA1 h sz tk g d os D E0 => ?_
      refine gu (c_lnx it ua avs an i (.str (S [c1]) t) hi) [2] [(L, esF (tf w true).params x rt b1 b2 (some (a, ch, tc))), (it, liO ua i), (ua, lst avs an), (rt, lst vs n)] sz tk [1,2] (hA.le (by decide)) D E0 (by kernel_rfl) ⟨by decide, by kernel_rfl, rfl⟩ (fun _ => rfl) fun r1 h1 sz1 tk1 hX1 D1 E1 => ?_
      refine gu (c_append rt (.str (S (tUAs ++ [c1])) (tk1 + 3)) vs n hv2) [1,1,1,4,4,4,4,1] [(L, fra [nt w.params k_self b1 (.ref x), nt w.params k_ret b2 (.ref rt), nt w.params k_agent a (.str (S [c1]) t)] 3), (it, liO ua (i + 1)), (ua, lst avs an), (rt, lst vs n)] sz1 (tk1 + 4) [3] (hA.le (by decide)) D1 E1 (by kernel_rfl) ⟨by decide, by kernel_rfl, rfl⟩ (fun _ => rfl) fun r2 h2 sz2 tk2 hX2 D2 E2 => ?_
      exact ga (IH a (tk1 + 3) (n + 1)) [] [0,1,2,3] hA (hA1.le (by decide)) D2 E2 (by kernel_rfl) (by decide) rfl
  | hf w =>
    rcases o with _ | ⟨a, ch, tc⟩
    · refine lcon_in rfl fun A hA hA1 h sz tk g d os D E0 => ?_
      refine gu (c_lnx it ua avs an i (.str (S [c1]) t) hi) [2] [(L, esF (tf w false).params x rt b1 b2 none), (it, liO ua i), (ua, lst avs an), (rt, lst vs n)] sz tk [1,2] (hA.le (by decide)) D E0 (by kernel_rfl) ⟨by decide, by kernel_rfl, rfl⟩ (fun _ => rfl) fun r1 h1 sz1 tk1 hX1 D1 E1 => ?_
      refine gu (c_append rt (.str (S (tUAs ++ [c1])) (tk1 + 2)) vs n hv2) [1,1,1,4,4,4,4,1] [(L, fra [nt w.params k_self b1 (.ref x), nt w.params k_ret b2 (.ref rt), nt w.params k_agent tk1 (.str (S [c1]) t)] 3), (it, liO ua (i + 1)), (ua, lst avs an), (rt, lst vs n)] sz1 (tk1 + 3) [3] (hA.le (by decide)) D1 E1 (by kernel_rfl) ⟨by decide, by kernel_rfl, rfl⟩ (fun _ => rfl) fun r2 h2 sz2 tk2 hX2 D2 E2 => ?_
      exact ga (IH tk1 (tk1 + 2) (n + 1)) [] [0,1,2,3] hA (hA1.le (by decide)) D2 E2 (by kernel_rfl) (by decide) rfl
    · refine lcon_in rfl fun A hA hA1 h sz tk g d os D E0 => ?_
      refine gu (c_lnx it ua avs an i (.str (S [c1]) t) hi) [2] [(L, esF (tf w false).params x rt b1 b2 (some (a, ch, tc))), (it, liO ua i), (ua, lst avs an), (rt, lst vs n)] sz tk [1,2] (hA.le (by decide)) D E0 (by kernel_rfl) ⟨by decide, by kernel_rfl, rfl⟩ (fun _ => rfl) fun r1 h1 sz1 tk1 hX1 D1 E1 => ?_
      refine gu (c_append rt (.str (S (tUAs ++ [c1])) (tk1 + 2)) vs n hv2) [1,1,1,4,4,4,4,1] [(L, fra [nt w.params k_self b1 (.ref x), nt w.params k_ret b2 (.ref rt), nt w.params k_agent a (.str (S [c1]) t)] 3), (it, liO ua (i + 1)), (ua, lst avs an), (rt, lst vs n)] sz1 (tk1 + 3) [3] (hA.le (by decide)) D1 E1 (by kernel_rfl) ⟨by decide, by kernel_rfl, rfl⟩ (fun _ => rfl) fun r2 h2 sz2 tk2 hX2 D2 E2 => ?_
      exact ga (IH a (tk1 + 2) (n + 1)) [] [0,1,2,3] hA (hA1.le (by decide)) D2 E2 (by kernel_rfl) (by decide) rfl
theorem es_step2 (w : World) (L it ua rt x : Addr) (b1 b2 : Tok) (avs : List Value) (an i : Nat) (c1 c2 : Nat) (t : Tok) (hi : avs[i]? = some (.str (S [c1, c2]) t)) (o : Option (Tok × Str × Tok)) (vs : List Value) (n : Nat) (hv2 : vs.length ≤ sizeLine) (β : Type) (fs2 : β → Facts) (X : β → Prop)
    (IH : ∀ (c t' : Tok) (n : Nat), LCon pw w (G w.params) 12 (esL L it) (esFs w.params L it ua rt x b1 b2 (liO ua (i + 1)) avs an (some (c, S [c1, c2], t)) (vs ++ [.str (S (tUAs ++ [c1, c2])) t']) n) (fun _ => .ok .next) fs2 X) :
    LCon pw w (G w.params) 12 (esL L it) (esFs w.params L it ua rt x b1 b2 (liO ua i) avs an o vs n) (fun _ => .ok .next) fs2 X := by
  induction w using tf_all with
  | ht w =>
    rcases o with _ | ⟨a, ch, tc⟩
    · refine lcon_in rfl fun A hA hA1 h sz tk g d os D E0 => ?_
      refine gu (c_lnx it ua avs an i (.str (S [c1, c2]) t) hi) [2] [(L, esF (tf w true).params x rt b1 b2 none), (it, liO ua i), (ua, lst avs an), (rt, lst vs n)] sz tk [1,2] (hA.le (by decide)) D E0 (by kernel_rfl) ⟨by decide, by kernel_rfl, rfl⟩ (fun _ => rfl) fun r1 h1 sz1 tk1 hX1 D1 E1 => ?_
      refine gu (c_append rt (.str (S (tUAs ++ [c1, c2])) (tk1 + 3)) vs n hv2) [1,1,1,4,4,4,4,1] [(L, fra [nt w.params k_self b1 (.ref x), nt w.params k_ret b2 (.ref rt), nt w.params k_agent tk1 (.str (S [c1, c2]) t)] 3), (it, liO ua (i + 1)), (ua, lst avs an), (rt, lst vs n)] sz1 (tk1 + 4) [3] (hA.le (by decide)) D1 E1 (by kernel_rfl) ⟨by decide, by kernel_rfl, rfl⟩ (fun _ => rfl) fun r2 h2 sz2 tk2 hX2 D2 E2 => ?_
      exact ga (IH tk1 (tk1 + 3) (n + 1)) [] [0,1,2,3] hA (hA1.le (by decide)) D2 E2 (by kernel_rfl) (by decide) rfl
    · refine lcon_in rfl fun A hA hA1 h sz tk g d os D E0 => ?_
      refine gu (c_lnx it ua avs an i (.str (S [c1, c2]) t) hi) [2] [(L, esF (tf w true).params x rt b1 b2 (some (a, ch, tc))), (it, liO ua i), (ua, lst avs an), (rt, lst vs n)] sz tk [1,2] (hA.le (by decide)) D E0 (by kernel_rfl) ⟨by decide, by kernel_rfl, rfl⟩ (fun _ => rfl) fun r1 h1 sz1 tk1 hX1 D1 E1 => ?_
      refine gu (c_append rt (.str (S (tUAs ++ [c1, c2])) (tk1 + 3)) vs n hv2) [1,1,1,4,4,4,4,1] [(L, fra [nt w.params k_self b1 (.ref x), nt w.params k_ret b2 (.ref rt), nt w.params k_agent a (.str (S [c1, c2]) t)] 3), (it, liO ua (i + 1)), (ua, lst avs an), (rt, lst vs n)] sz1 (tk1 + 4) [3] (hA.le (by decide)) D1 E1 (by kernel_rfl) ⟨by decide, by kernel_rfl, rfl⟩ (fun _ => rfl) fun r2 h2 sz2 tk2 hX2 D2 E2 => ?_
      exact ga (IH a (tk1 + 3) (n + 1)) [] [0,1,2,3] hA (hA1.le (by decide)) D2 E2 (by kernel_rfl) (by decide) rfl
  | hf w =>
    rcases o with _ | ⟨a, ch, tc⟩
    · refine lcon_in rfl fun A hA hA1 h sz tk g d os D E0 => ?_
      refine gu (c_lnx it ua avs an i (.str (S [c1, c2]) t) hi) [2] [(L, esF (tf w false).params x rt b1 b2 none), (it, liO ua i), (ua, lst avs an), (rt, lst vs n)] sz tk [1,2] (hA.le (by decide)) D E0 (by kernel_rfl) ⟨by decide, by kernel_rfl, rfl⟩ (fun _ => rfl) fun r1 h1 sz1 tk1 hX1 D1 E1 => ?_
      refine gu (c_append rt (.str (S (tUAs ++ [c1, c2])) (tk1 + 2)) vs n hv2) [1,1,1,4,4,4,4,1] [(L, fra [nt w.params k_self b1 (.ref x), nt w.params k_ret b2 (.ref rt), nt w.params k_agent tk1 (.str (S [c1, c2]) t)] 3), (it, liO ua (i + 1)), (ua, lst avs an), (rt, lst vs n)] sz1 (tk1 + 3) [3] (hA.le (by decide)) D1 E1 (by kernel_rfl) ⟨by decide, by kernel_rfl, rfl⟩ (fun _ => rfl) fun r2 h2 sz2 tk2 hX2 D2 E2 => ?_
      exact ga (IH tk1 (tk1 + 2) (n + 1)) [] [0,1,2,3] hA (hA1.le (by decide)) D2 E2 (by kernel_rfl) (by decide) rfl
    · refine lcon_in rfl fun A hA hA1 h sz tk g d os D E0 => ?_
      refine gu (c_lnx it ua avs an i (.str (S [c1, c2]) t) hi) [2] [(L, esF (tf w false).params x rt b1 b2 (some (a, ch, tc))), (it, liO ua i), (ua, lst avs an), (rt, lst vs n)] sz tk [1,2] (hA.le (by decide)) D E0 (by kernel_rfl) ⟨by decide, by kernel_rfl, rfl⟩ (fun _ => rfl) fun r1 h1 sz1 tk1 hX1 D1 E1 => ?_
      refine gu (c_append rt (.str (S (tUAs ++ [c1, c2])) (tk1 + 2)) vs n hv2) [1,1,1,4,4,4,4,1] [(L, fra [nt w.params k_self b1 (.ref x), nt w.params k_ret b2 (.ref rt), nt w.params k_agent a (.str (S [c1, c2]) t)] 3), (it, liO ua (i + 1)), (ua, lst avs an), (rt, lst vs n)] sz1 (tk1 + 3) [3] (hA.le (by decide)) D1 E1 (by kernel_rfl) ⟨by decide, by kernel_rfl, rfl⟩ (fun _ => rfl) fun r2 h2 sz2 tk2 hX2 D2 E2 => ?_
      exact ga (IH a (tk1 + 2) (n + 1)) [] [0,1,2,3] hA (hA1.le (by decide)) D2 E2 (by kernel_rfl) (by decide) rfl
theorem es_step3 (w : World) (L it ua rt x : Addr) (b1 b2 : Tok) (avs : List Value) (an i : Nat) (c1 c2 c3 : Nat) (t : Tok) (hi : avs[i]? = some (.str (S [c1, c2, c3]) t)) (o : Option (Tok × Str × Tok)) (vs : List Value) (n : Nat) (hv2 : vs.length ≤ sizeLine) (β : Type) (fs2 : β → Facts) (X : β → Prop)
    (IH : ∀ (c t' : Tok) (n : Nat), LCon pw w (G w.params) 12 (esL L it) (esFs w.params L it ua rt x b1 b2 (liO ua (i + 1)) avs an (some (c, S [c1, c2, c3], t)) (vs ++ [.str (S (tUAs ++ [c1, c2, c3])) t']) n) (fun _ => .ok .next) fs2 X) :
    LCon pw w (G w.params) 12 (esL L it) (esFs w.params L it ua rt x b1 b2 (liO ua i) avs an o vs n) (fun _ => .ok .next) fs2 X := by
  induction w using tf_all with
  | ht w =>
    rcases o with _ | ⟨a, ch, tc⟩
    · refine lcon_in rfl fun A hA hA1 h sz tk g d os D E0 => ?_
      refine gu (c_lnx it ua avs an i (.str (S [c1, c2, c3]) t) hi) [2] [(L, esF (tf w true).params x rt b1 b2 none), (it, liO ua i), (ua, lst avs an), (rt, lst vs n)] sz tk [1,2] (hA.le (by decide)) D E0 (by kernel_rfl) ⟨by decide, by kernel_rfl, rfl⟩ (fun _ => rfl) fun r1 h1 sz1 tk1 hX1 D1 E1 => ?_
      refine gu (c_append rt (.str (S (tUAs ++ [c1, c2, c3])) (tk1 + 3)) vs n hv2) [1,1,1,4,4,4,4,1] [(L, fra [nt w.params k_self b1 (.ref x), nt w.params k_ret b2 (.ref rt), nt w.params k_agent tk1 (.str (S [c1, c2, c3]) t)] 3), (it, liO ua (i + 1)), (ua, lst avs an), (rt, lst vs n)] sz1 (tk1 + 4) [3] (hA.le (by decide)) D1 E1 (by kernel_rfl) ⟨by decide, by kernel_rfl, rfl⟩ (fun _ => rfl) fun r2 h2 sz2 tk2 hX2 D2 E2 => ?_
      exact ga (IH tk1 (tk1 + 3) (n + 1)) [] [0,1,2,3] hA (hA1.le (by decide)) D2 E2 (by kernel_rfl) (by decide) rfl
    · refine lcon_in rfl fun A hA hA1 h sz tk g d os D E0 => ?_
      refine gu (c_lnx it ua avs an i (.str (S [c1, c2, c3]) t) hi) [2] [(L, esF (tf w true).params x rt b1 b2 (some (a, ch, tc))), (it, liO ua i), (ua, lst avs an), (rt, lst vs n)] sz tk [1,2] (hA.le (by decide)) D E0 (by kernel_rfl) ⟨by decide, by kernel_rfl, rfl⟩ (fun _ => rfl) fun r1 h1 sz1 tk1 hX1 D1 E1 => ?_
      refine gu (c_append rt (.str (S (tUAs ++ [c1, c2, c3])) (tk1 + 3)) vs n hv2) [1,1,1,4,4,4,4,1] [(L, fra [nt w.params k_self b1 (.ref x), nt w.params k_ret b2 (.ref rt), nt w.params k_agent a (.str (S [c1, c2, c3]) t)] 3), (it, liO ua (i + 1)), (ua, lst avs an), (rt, lst vs n)] sz1 (tk1 + 4) [3] (hA.le (by decide)) D1 E1 (by kernel_rfl) ⟨by decide, by kernel_rfl, rfl⟩ (fun _ => rfl) fun r2 h2 sz2 tk2 hX2 D2 E2 => ?_
      exact ga (IH a (tk1 + 3) (n + 1)) [] [0,1,2,3] hA (hA1.le (by decide)) D2 E2 (by kernel_rfl) (by decide) rfl
  | hf w =>
    rcases o with _ | ⟨a, ch, tc⟩
    · refine lcon_in rfl fun A hA hA1 h sz tk g d os D E0 => ?_
      refine gu (c_lnx it ua avs an i (.str (S [c1, c2, c3]) t) hi) [2] [(L, esF (tf w false).params x rt b1 b2 none), (it, liO ua i), (ua, lst avs an), (rt, lst vs n)] sz tk [1,2] (hA.le (by decide)) D E0 (by kernel_rfl) ⟨by decide, by kernel_rfl, rfl⟩ (fun _ => rfl) fun r1 h1 sz1 tk1 hX1 D1 E1 => ?_
      refine gu (c_append rt (.str (S (tUAs ++ [c1, c2, c3])) (tk1 + 2)) vs n hv2) [1,1,1,4,4,4,4,1] [(L, fra [nt w.params k_self b1 (.ref x), nt w.params k_ret b2 (.ref rt), nt w.params k_agent tk1 (.str (S [c1, c2, c3]) t)] 3), (it, liO ua (i + 1)), (ua, lst avs an), (rt, lst vs n)] sz1 (tk1 + 3) [3] (hA.le (by decide)) D1 E1 (by kernel_rfl) ⟨by decide, by kernel_rfl, rfl⟩ (fun _ => rfl) fun r2 h2 sz2 tk2 hX2 D2 E2 => ?_
      exact ga (IH tk1 (tk1 + 2) (n + 1)) [] [0,1,2,3] hA (hA1.le (by decide)) D2 E2 (by kernel_rfl) (by decide) rfl
    · refine lcon_in rfl fun A hA hA1 h sz tk g d os D E0 => ?_
      refine gu (c_lnx it ua avs an i (.str (S [c1, c2, c3]) t) hi) [2] [(L, esF (tf w false).params x rt b1 b2 (some (a, ch, tc))), (it, liO ua i), (ua, lst avs an), (rt, lst vs n)] sz tk [1,2] (hA.le (by decide)) D E0 (by kernel_rfl) ⟨by decide, by kernel_rfl, rfl⟩ (fun _ => rfl) fun r1 h1 sz1 tk1 hX1 D1 E1 => ?_
      refine gu (c_append rt (.str (S (tUAs ++ [c1, c2, c3])) (tk1 + 2)) vs n hv2) [1,1,1,4,4,4,4,1] [(L, fra [nt w.params k_self b1 (.ref x), nt w.params k_ret b2 (.ref rt), nt w.params k_agent a (.str (S [c1, c2, c3]) t)] 3), (it, liO ua (i + 1)), (ua, lst avs an), (rt, lst vs n)] sz1 (tk1 + 3) [3] (hA.le (by decide)) D1 E1 (by kernel_rfl) ⟨by decide, by kernel_rfl, rfl⟩ (fun _ => rfl) fun r2 h2 sz2 tk2 hX2 D2 E2 => ?_
      exact ga (IH a (tk1 + 2) (n + 1)) [] [0,1,2,3] hA (hA1.le (by decide)) D2 E2 (by kernel_rfl) (by decide) rfl
theorem es_step4 (w : World) (L it ua rt x : Addr) (b1 b2 : Tok) (avs : List Value) (an i : Nat) (c1 c2 c3 c4 : Nat) (t : Tok) (hi : avs[i]? = some (.str (S [c1, c2, c3, c4]) t)) (o : Option (Tok × Str × Tok)) (vs : List Value) (n : Nat) (hv2 : vs.length ≤ sizeLine) (β : Type) (fs2 : β → Facts) (X : β → Prop)
    (IH : ∀ (c t' : Tok) (n : Nat), LCon pw w (G w.params) 12 (esL L it) (esFs w.params L it ua rt x b1 b2 (liO ua (i + 1)) avs an (some (c, S [c1, c2, c3, c4], t)) (vs ++ [.str (S (tUAs ++ [c1, c2, c3, c4])) t']) n) (fun _ => .ok .next) fs2 X) :
    LCon pw w (G w.params) 12 (esL L it) (esFs w.params L it ua rt x b1 b2 (liO ua i) avs an o vs n) (fun _ => .ok .next) fs2 X := by
  induction w using tf_all with
  | ht w =>
    rcases o with _ | ⟨a, ch, tc⟩
    · refine lcon_in rfl fun A hA hA1 h sz tk g d os D E0 => ?_
      refine gu (c_lnx it ua avs an i (.str (S [c1, c2, c3, c4]) t) hi) [2] [(L, esF (tf w true).params x rt b1 b2 none), (it, liO ua i), (ua, lst avs an), (rt, lst vs n)] sz tk [1,2] (hA.le (by decide)) D E0 (by kernel_rfl) ⟨by decide, by kernel_rfl, rfl⟩ (fun _ => rfl) fun r1 h1 sz1 tk1 hX1 D1 E1 => ?_
      refine gu (c_append rt (.str (S (tUAs ++ [c1, c2, c3, c4])) (tk1 + 3)) vs n hv2) [1,1,1,4,4,4,4,1] [(L, fra [nt w.params k_self b1 (.ref x), nt w.params k_ret b2 (.ref rt), nt w.params k_agent tk1 (.str (S [c1, c2, c3, c4]) t)] 3), (it, liO ua (i + 1)), (ua, lst avs an), (rt, lst vs n)] sz1 (tk1 + 4) [3] (hA.le (by decide)) D1 E1 (by kernel_rfl) ⟨by decide, by kernel_rfl, rfl⟩ (fun _ => rfl) fun r2 h2 sz2 tk2 hX2 D2 E2 => ?_
      exact ga (IH tk1 (tk1 + 3) (n + 1)) [] [0,1,2,3] hA (hA1.le (by decide)) D2 E2 (by kernel_rfl) (by decide) rfl
    · refine lcon_in rfl fun A hA hA1 h sz tk g d os D E0 => ?_
      refine gu (c_lnx it ua avs an i (.str (S [c1, c2, c3, c4]) t) hi) [2] [(L, esF (tf w true).params x rt b1 b2 (some (a, ch, tc))), (it, liO ua i), (ua, lst avs an), (rt, lst vs n)] sz tk [1,2] (hA.le (by decide)) D E0 (by kernel_rfl) ⟨by decide, by kernel_rfl, rfl⟩ (fun _ => rfl) fun r1 h1 sz1 tk1 hX1 D1 E1 => ?_
      refine gu (c_append rt (.str (S (tUAs ++ [c1, c2, c3, c4])) (tk1 + 3)) vs n hv2) [1,1,1,4,4,4,4,1] [(L, fra [nt w.params k_self b1 (.ref x), nt w.params k_ret b2 (.ref rt), nt w.params k_agent a (.str (S [c1, c2, c3, c4]) t)] 3), (it, liO ua (i + 1)), (ua, lst avs an), (rt, lst vs n)] sz1 (tk1 + 4) [3] (hA.le (by decide)) D1 E1 (by kernel_rfl) ⟨by decide, by kernel_rfl, rfl⟩ (fun _ => rfl) fun r2 h2 sz2 tk2 hX2 D2 E2 => ?_
      exact ga (IH a (tk1 + 3) (n + 1)) [] [0,1,2,3] hA (hA1.le (by decide)) D2 E2 (by kernel_rfl) (by decide) rfl
  | hf w =>
    rcases o with _ | ⟨a, ch, tc⟩
    · refine lcon_in rfl fun A hA hA1 h sz tk g d os D E0 => ?_
      refine gu (c_lnx it ua avs an i (.str (S [c1, c2, c3, c4]) t) hi) [2] [(L, esF (tf w false).params x rt b1 b2 none), (it, liO ua i), (ua, lst avs an), (rt, lst vs n)] sz tk [1,2] (hA.le (by decide)) D E0 (by kernel_rfl) ⟨by decide, by kernel_rfl, rfl⟩ (fun _ => rfl) fun r1 h1 sz1 tk1 hX1 D1 E1 => ?_
      refine gu (c_append rt (.str (S (tUAs ++ [c1, c2, c3, c4])) (tk1 + 2)) vs n hv2) [1,1,1,4,4,4,4,1] [(L, fra [nt w.params k_self b1 (.ref x), nt w.params k_ret b2 (.ref rt), nt w.params k_agent tk1 (.str (S [c1, c2, c3, c4]) t)] 3), (it, liO ua (i + 1)), (ua, lst avs an), (rt, lst vs n)] sz1 (tk1 + 3) [3] (hA.le (by decide)) D1 E1 (by kernel_rfl) ⟨by decide, by kernel_rfl, rfl⟩ (fun _ => rfl) fun r2 h2 sz2 tk2 hX2 D2 E2 => ?_
      exact ga (IH tk1 (tk1 + 2) (n + 1)) [] [0,1,2,3] hA (hA1.le (by decide)) D2 E2 (by kernel_rfl) (by decide) rfl
    · refine lcon_in rfl fun A hA hA1 h sz tk g d os D E0 => ?_
      refine gu (c_lnx it ua avs an i (.str (S [c1, c2, c3, c4]) t) hi) [2] [(L, esF (tf w false).params x rt b1 b2 (some (a, ch, tc))), (it, liO ua i), (ua, lst avs an), (rt, lst vs n)] sz tk [1,2] (hA.le (by decide)) D E0 (by kernel_rfl) ⟨by decide, by kernel_rfl, rfl⟩ (fun _ => rfl) fun r1 h1 sz1 tk1 hX1 D1 E1 => ?_
      refine gu (c_append rt (.str (S (tUAs ++ [c1, c2, c3, c4])) (tk1 + 2)) vs n hv2) [1,1,1,4,4,4,4,1] [(L, fra [nt w.params k_self b1 (.ref x), nt w.params k_ret b2 (.ref rt), nt w.params k_agent a (.str (S [c1, c2, c3, c4]) t)] 3), (it, liO ua (i + 1)), (ua, lst avs an), (rt, lst vs n)] sz1 (tk1 + 3) [3] (hA.le (by decide)) D1 E1 (by kernel_rfl) ⟨by decide, by kernel_rfl, rfl⟩ (fun _ => rfl) fun r2 h2 sz2 tk2 hX2 D2 E2 => ?_
      exact ga (IH a (tk1 + 2) (n + 1)) [] [0,1,2,3] hA (hA1.le (by decide)) D2 E2 (by kernel_rfl) (by decide) rfl
theorem es_step5 (w : World) (L it ua rt x : Addr) (b1 b2 : Tok) (avs : List Value) (an i : Nat) (c1 c2 c3 c4 c5 : Nat) (t : Tok) (hi : avs[i]? = some (.str (S [c1, c2, c3, c4, c5]) t)) (o : Option (Tok × Str × Tok)) (vs : List Value) (n : Nat) (hv2 : vs.length ≤ sizeLine) (β : Type) (fs2 : β → Facts) (X : β → Prop)
    (IH : ∀ (c t' : Tok) (n : Nat), LCon pw w (G w.params) 12 (esL L it) (esFs w.params L it ua rt x b1 b2 (liO ua (i + 1)) avs an (some (c, S [c1, c2, c3, c4, c5], t)) (vs ++ [.str (S (tUAs ++ [c1, c2, c3, c4, c5])) t']) n) (fun _ => .ok .next) fs2 X) :
    LCon pw w (G w.params) 12 (esL L it) (esFs w.params L it ua rt x b1 b2 (liO ua i) avs an o vs n) (fun _ => .ok .next) fs2 X := by
  induction w using tf_all with
  | ht w =>
    rcases o with _ | ⟨a, ch, tc⟩
    · refine lcon_in rfl fun A hA hA1 h sz tk g d os D E0 => ?_
      refine gu (c_lnx it ua avs an i (.str (S [c1, c2, c3, c4, c5]) t) hi) [2] [(L, esF (tf w true).params x rt b1 b2 none), (it, liO ua i), (ua, lst avs an), (rt, lst vs n)] sz tk [1,2] (hA.le (by decide)) D E0 (by kernel_rfl) ⟨by decide, by kernel_rfl, rfl⟩ (fun _ => rfl) fun r1 h1 sz1 tk1 hX1 D1 E1 => ?_
      refine gu (c_append rt (.str (S (tUAs ++ [c1, c2, c3, c4, c5])) (tk1 + 3)) vs n hv2) [1,1,1,4,4,4,4,1] [(L, fra [nt w.params k_self b1 (.ref x), nt w.params k_ret b2 (.ref rt), nt w.params k_agent tk1 (.str (S [c1, c2, c3, c4, c5]) t)] 3), (it, liO ua (i + 1)), (ua, lst avs an), (rt, lst vs n)] sz1 (tk1 + 4) [3] (hA.le (by decide)) D1 E1 (by kernel_rfl) ⟨by decide, by kernel_rfl, rfl⟩ (fun _ => rfl) fun r2 h2 sz2 tk2 hX2 D2 E2 => ?_
      exact ga (IH tk1 (tk1 + 3) (n + 1)) [] [0,1,2,3] hA (hA1.le (by decide)) D2 E2 (by kernel_rfl) (by decide) rfl
    · refine lcon_in rfl fun A hA hA1 h sz tk g d os D E0 => ?_
      refine gu (c_lnx it ua avs an i (.str (S [c1, c2, c3, c4, c5]) t) hi) [2] [(L, esF (tf w true).params x rt b1 b2 (some (a, ch, tc))), (it, liO ua i), (ua, lst avs an), (rt, lst vs n)] sz tk [1,2] (hA.le (by decide)) D E0 (by kernel_rfl) ⟨by decide, by kernel_rfl, rfl⟩ (fun _ => rfl) fun r1 h1 sz1 tk1 hX1 D1 E1 => ?_
      refine gu (c_append rt (.str (S (tUAs ++ [c1, c2, c3, c4, c5])) (tk1 + 3)) vs n hv2) [1,1,1,4,4,4,4,1] [(L, fra [nt w.params k_self b1 (.ref x), nt w.params k_ret b2 (.ref rt), nt w.params k_agent a (.str (S [c1, c2, c3, c4, c5]) t)] 3), (it, liO ua (i + 1)), (ua, lst avs an), (rt, lst vs n)] sz1 (tk1 + 4) [3] (hA.le (by decide)) D1 E1 (by kernel_rfl) ⟨by decide, by kernel_rfl, rfl⟩ (fun _ => rfl) fun r2 h2 sz2 tk2 hX2 D2 E2 => ?_
      exact ga (IH a (tk1 + 3) (n + 1)) [] [0,1,2,3] hA (hA1.le (by decide)) D2 E2 (by kernel_rfl) (by decide) rfl
  | hf w =>
    rcases o with _ | ⟨a, ch, tc⟩
    · refine lcon_in rfl fun A hA hA1 h sz tk g d os D E0 => ?_
      refine gu (c_lnx it ua avs an i (.str (S [c1, c2, c3, c4, c5]) t) hi) [2] [(L, esF (tf w false).params x rt b1 b2 none), (it, liO ua i), (ua, lst avs an), (rt, lst vs n)] sz tk [1,2] (hA.le (by decide)) D E0 (by kernel_rfl) ⟨by decide, by kernel_rfl, rfl⟩ (fun _ => rfl) fun r1 h1 sz1 tk1 hX1 D1 E1 => ?_
      refine gu (c_append rt (.str (S (tUAs ++ [c1, c2, c3, c4, c5])) (tk1 + 2)) vs n hv2) [1,1,1,4,4,4,4,1] [(L, fra [nt w.params k_self b1 (.ref x), nt w.params k_ret b2 (.ref rt), nt w.params k_agent tk1 (.str (S [c1, c2, c3, c4, c5]) t)] 3), (it, liO ua (i + 1)), (ua, lst avs an), (rt, lst vs n)] sz1 (tk1 + 3) [3] (hA.le (by decide)) D1 E1 (by kernel_rfl) ⟨by decide, by kernel_rfl, rfl⟩ (fun _ => rfl) fun r2 h2 sz2 tk2 hX2 D2 E2 => ?_
      exact ga (IH tk1 (tk1 + 2) (n + 1)) [] [0,1,2,3] hA (hA1.le (by decide)) D2 E2 (by kernel_rfl) (by decide) rfl
    · refine lcon_in rfl fun A hA hA1 h sz tk g d os D E0 => ?_
      refine gu (c_lnx it ua avs an i (.str (S [c1, c2, c3, c4, c5]) t) hi) [2] [(L, esF (tf w false).params x rt b1 b2 (some (a, ch, tc))), (it, liO ua i), (ua, lst avs an), (rt, lst vs n)] sz tk [1,2] (hA.le (by decide)) D E0 (by kernel_rfl) ⟨by decide, by kernel_rfl, rfl⟩ (fun _ => rfl) fun r1 h1 sz1 tk1 hX1 D1 E1 => ?_
      refine gu (c_append rt (.str (S (tUAs ++ [c1, c2, c3, c4, c5])) (tk1 + 2)) vs n hv2) [1,1,1,4,4,4,4,1] [(L, fra [nt w.params k_self b1 (.ref x), nt w.params k_ret b2 (.ref rt), nt w.params k_agent a (.str (S [c1, c2, c3, c4, c5]) t)] 3), (it, liO ua (i + 1)), (ua, lst avs an), (rt, lst vs n)] sz1 (tk1 + 3) [3] (hA.le (by decide)) D1 E1 (by kernel_rfl) ⟨by decide, by kernel_rfl, rfl⟩ (fun _ => rfl) fun r2 h2 sz2 tk2 hX2 D2 E2 => ?_
      exact ga (IH a (tk1 + 2) (n + 1)) [] [0,1,2,3] hA (hA1.le (by decide)) D2 E2 (by kernel_rfl) (by decide) rfl
theorem es_step6 (w : World) (L it ua rt x : Addr) (b1 b2 : Tok) (avs : List Value) (an i : Nat) (c1 c2 c3 c4 c5 c6 : Nat) (t : Tok) (hi : avs[i]? = some (.str (S [c1, c2, c3, c4, c5, c6]) t)) (o : Option (Tok × Str × Tok)) (vs : List Value) (n : Nat) (hv2 : vs.length ≤ sizeLine) (β : Type) (fs2 : β → Facts) (X : β → Prop)
    (IH : ∀ (c t' : Tok) (n : Nat), LCon pw w (G w.params) 12 (esL L it) (esFs w.params L it ua rt x b1 b2 (liO ua (i + 1)) avs an (some (c, S [c1, c2, c3, c4, c5, c6], t)) (vs ++ [.str (S (tUAs ++ [c1, c2, c3, c4, c5, c6])) t']) n) (fun _ => .ok .next) fs2 X) :
    LCon pw w (G w.params) 12 (esL L it) (esFs w.params L it ua rt x b1 b2 (liO ua i) avs an o vs n) (fun _ => .ok .next) fs2 X := by
  induction w using tf_all with
  | ht w =>
    rcases o with _ | ⟨a, ch, tc⟩
    · refine lcon_in rfl fun A hA hA1 h sz tk g d os D E0 => ?_
      refine gu (c_lnx it ua avs an i (.str (S [c1, c2, c3, c4, c5, c6]) t) hi) [2] [(L, esF (tf w true).params x rt b1 b2 none), (it, liO ua i), (ua, lst avs an), (rt, lst vs n)] sz tk [1,2] (hA.le (by decide)) D E0 (by kernel_rfl) ⟨by decide, by kernel_rfl, rfl⟩ (fun _ => rfl) fun r1 h1 sz1 tk1 hX1 D1 E1 => ?_
      refine gu (c_append rt (.str (S (tUAs ++ [c1, c2, c3, c4, c5, c6])) (tk1 + 3)) vs n hv2) [1,1,1,4,4,4,4,1] [(L, fra [nt w.params k_self b1 (.ref x), nt w.params k_ret b2 (.ref rt), nt w.params k_agent tk1 (.str (S [c1, c2, c3, c4, c5, c6]) t)] 3), (it, liO ua (i + 1)), (ua, lst avs an), (rt, lst vs n)] sz1 (tk1 + 4) [3] (hA.le (by decide)) D1 E1 (by kernel_rfl) ⟨by decide, by kernel_rfl, rfl⟩ (fun _ => rfl) fun r2 h2 sz2 tk2 hX2 D2 E2 => ?_
      exact ga (IH tk1 (tk1 + 3) (n + 1)) [] [0,1,2,3] hA (hA1.le (by decide)) D2 E2 (by kernel_rfl) (by decide) rfl
    · refine lcon_in rfl fun A hA hA1 h sz tk g d os D E0 => ?_
      refine gu (c_lnx it ua avs an i (.str (S [c1, c2, c3, c4, c5, c6]) t) hi) [2] [(L, esF (tf w true).params x rt b1 b2 (some (a, ch, tc))), (it, liO ua i), (ua, lst avs an), (rt, lst vs n)] sz tk [1,2] (hA.le (by decide)) D E0 (by kernel_rfl) ⟨by decide, by kernel_rfl, rfl⟩ (fun _ => rfl) fun r1 h1 sz1 tk1 hX1 D1 E1 => ?_
      refine gu (c_append rt (.str (S (tUAs ++ [c1, c2, c3, c4, c5, c6])) (tk1 + 3)) vs n hv2) [1,1,1,4,4,4,4,1] [(L, fra [nt w.params k_self b1 (.ref x), nt w.params k_ret b2 (.ref rt), nt w.params k_agent a (.str (S [c1, c2, c3, c4, c5, c6]) t)] 3), (it, liO ua (i + 1)), (ua, lst avs an), (rt, lst vs n)] sz1 (tk1 + 4) [3] (hA.le (by decide)) D1 E1 (by kernel_rfl) ⟨by decide, by kernel_rfl, rfl⟩ (fun _ => rfl) fun r2 h2 sz2 tk2 hX2 D2 E2 => ?_
      exact ga (IH a (tk1 + 3) (n + 1)) [] [0,1,2,3] hA (hA1.le (by decide)) D2 E2 (by kernel_rfl) (by decide) rfl
  | hf w =>
    rcases o with _ | ⟨a, ch, tc⟩
    · refine lcon_in rfl fun A hA hA1 h sz tk g d os D E0 => ?_
      refine gu (c_lnx it ua avs an i (.str (S [c1, c2, c3, c4, c5, c6]) t) hi) [2] [(L, esF (tf w false).params x rt b1 b2 none), (it, liO ua i), (ua, lst avs an), (rt, lst vs n)] sz tk [1,2] (hA.le (by decide)) D E0 (by kernel_rfl) ⟨by decide, by kernel_rfl, rfl⟩ (fun _ => rfl) fun r1 h1 sz1 tk1 hX1 D1 E1 => ?_
      refine gu (c_append rt (.str (S (tUAs ++ [c1, c2, c3, c4, c5, c6])) (tk1 + 2)) vs n hv2) [1,1,1,4,4,4,4,1] [(L, fra [nt w.params k_self b1 (.ref x), nt w.params k_ret b2 (.ref rt), nt w.params k_agent tk1 (.str (S [c1, c2, c3, c4, c5, c6]) t)] 3), (it, liO ua (i + 1)), (ua, lst avs an), (rt, lst vs n)] sz1 (tk1 + 3) [3] (hA.le (by decide)) D1 E1 (by kernel_rfl) ⟨by decide, by kernel_rfl, rfl⟩ (fun _ => rfl) fun r2 h2 sz2 tk2 hX2 D2 E2 => ?_
      exact ga (IH tk1 (tk1 + 2) (n + 1)) [] [0,1,2,3] hA (hA1.le (by decide)) D2 E2 (by kernel_rfl) (by decide) rfl
    · refine lcon_in rfl fun A hA hA1 h sz tk g d os D E0 => ?_
      refine gu (c_lnx it ua avs an i (.str (S [c1, c2, c3, c4, c5, c6]) t) hi) [2] [(L, esF (tf w false).params x rt b1 b2 (some (a, ch, tc))), (it, liO ua i), (ua, lst avs an), (rt, lst vs n)] sz tk [1,2] (hA.le (by decide)) D E0 (by kernel_rfl) ⟨by decide, by kernel_rfl, rfl⟩ (fun _ => rfl) fun r1 h1 sz1 tk1 hX1 D1 E1 => ?_
      refine gu (c_append rt (.str (S (tUAs ++ [c1, c2, c3, c4, c5, c6])) (tk1 + 2)) vs n hv2) [1,1,1,4,4,4,4,1] [(L, fra [nt w.params k_self b1 (.ref x), nt w.params k_ret b2 (.ref rt), nt w.params k_agent a (.str (S [c1, c2, c3, c4, c5, c6]) t)] 3), (it, liO ua (i + 1)), (ua, lst avs an), (rt, lst vs n)] sz1 (tk1 + 3) [3] (hA.le (by decide)) D1 E1 (by kernel_rfl) ⟨by decide, by kernel_rfl, rfl⟩ (fun _ => rfl) fun r2 h2 sz2 tk2 hX2 D2 E2 => ?_
      exact ga (IH a (tk1 + 2) (n + 1)) [] [0,1,2,3] hA (hA1.le (by decide)) D2 E2 (by kernel_rfl) (by decide) rfl
theorem es_step7 (w : World) (L it ua rt x : Addr) (b1 b2 : Tok) (avs : List Value) (an i : Nat) (c1 c2 c3 c4 c5 c6 c7 : Nat) (t : Tok) (hi : avs[i]? = some (.str (S [c1, c2, c3, c4, c5, c6, c7]) t)) (o : Option (Tok × Str × Tok)) (vs : List Value) (n : Nat) (hv2 : vs.length ≤ sizeLine) (β : Type) (fs2 : β → Facts) (X : β → Prop)
    (IH : ∀ (c t' : Tok) (n : Nat), LCon pw w (G w.params) 12 (esL L it) (esFs w.params L it ua rt x b1 b2 (liO ua (i + 1)) avs an (some (c, S [c1, c2, c3, c4, c5, c6, c7], t)) (vs ++ [.str (S (tUAs ++ [c1, c2, c3, c4, c5, c6, c7])) t']) n) (fun _ => .ok .next) fs2 X) :
    LCon pw w (G w.params) 12 (esL L it) (esFs w.params L it ua rt x b1 b2 (liO ua i) avs an o vs n) (fun _ => .ok .next) fs2 X := by
  induction w using tf_all with
  | ht w =>
    rcases o with _ | ⟨a, ch, tc⟩
    · refine lcon_in rfl fun A hA hA1 h sz tk g d os D E0 => ?_
      refine gu (c_lnx it ua avs an i (.str (S [c1, c2, c3, c4, c5, c6, c7]) t) hi) [2] [(L, esF (tf w true).params x rt b1 b2 none), (it, liO ua i), (ua, lst avs an), (rt, lst vs n)] sz tk [1,2] (hA.le (by decide)) D E0 (by kernel_rfl) ⟨by decide, by kernel_rfl, rfl⟩ (fun _ => rfl) fun r1 h1 sz1 tk1 hX1 D1 E1 => ?_
      refine gu (c_append rt (.str (S (tUAs ++ [c1, c2, c3, c4, c5, c6, c7])) (tk1 + 3)) vs n hv2) [1,1,1,4,4,4,4,1] [(L, fra [nt w.params k_self b1 (.ref x), nt w.params k_ret b2 (.ref rt), nt w.params k_agent tk1 (.str (S [c1, c2, c3, c4, c5, c6, c7]) t)] 3), (it, liO ua (i + 1)), (ua, lst avs an), (rt, lst vs n)] sz1 (tk1 + 4) [3] (hA.le (by decide)) D1 E1 (by kernel_rfl) ⟨by decide, by kernel_rfl, rfl⟩ (fun _ => rfl) fun r2 h2 sz2 tk2 hX2 D2 E2 => ?_
      exact ga (IH tk1 (tk1 + 3) (n + 1)) [] [0,1,2,3] hA (hA1.le (by decide)) D2 E2 (by kernel_rfl) (by decide) rfl
    · refine lcon_in rfl fun A hA hA1 h sz tk g d os D E0 => ?_
      refine gu (c_lnx it ua avs an i (.str (S [c1, c2, c3, c4, c5, c6, c7]) t) hi) [2] [(L, esF (tf w true).params x rt b1 b2 (some (a, ch, tc))), (it, liO ua i), (ua, lst avs an), (rt, lst vs n)] sz tk [1,2] (hA.le (by decide)) D E0 (by kernel_rfl) ⟨by decide, by kernel_rfl, rfl⟩ (fun _ => rfl) fun r1 h1 sz1 tk1 hX1 D1 E1 => ?_
      refine gu (c_append rt (.str (S (tUAs ++ [c1, c2, c3, c4, c5, c6, c7])) (tk1 + 3)) vs n hv2) [1,1,1,4,4,4,4,1] [(L, fra [nt w.params k_self b1 (.ref x), nt w.params k_ret b2 (.ref rt), nt w.params k_agent a (.str (S [c1, c2, c3, c4, c5, c6, c7]) t)] 3), (it, liO ua (i + 1)), (ua, lst avs an), (rt, lst vs n)] sz1 (tk1 + 4) [3] (hA.le (by decide)) D1 E1 (by kernel_rfl) ⟨by decide, by kernel_rfl, rfl⟩ (fun _ => rfl) fun r2 h2 sz2 tk2 hX2 D2 E2 => ?_
      exact ga (IH a (tk1 + 3) (n + 1)) [] [0,1,2,3] hA (hA1.le (by decide)) D2 E2 (by kernel_rfl) (by decide) rfl
  | hf w =>
    rcases o with _ | ⟨a, ch, tc⟩
    · refine lcon_in rfl fun A hA hA1 h sz tk g d os D E0 => ?_
      refine gu (c_lnx it ua avs an i (.str (S [c1, c2, c3, c4, c5, c6, c7]) t) hi) [2] [(L, esF (tf w false).params x rt b1 b2 none), (it, liO ua i), (ua, lst avs an), (rt, lst vs n)] sz tk [1,2] (hA.le (by decide)) D E0 (by kernel_rfl) ⟨by decide, by kernel_rfl, rfl⟩ (fun _ => rfl) fun r1 h1 sz1 tk1 hX1 D1 E1 => ?_
      refine gu (c_append rt (.str (S (tUAs ++ [c1, c2, c3, c4, c5, c6, c7])) (tk1 + 2)) vs n hv2) [1,1,1,4,4,4,4,1] [(L, fra [nt w.params k_self b1 (.ref x), nt w.params k_ret b2 (.ref rt), nt w.params k_agent tk1 (.str (S [c1, c2, c3, c4, c5, c6, c7]) t)] 3), (it, liO ua (i + 1)), (ua, lst avs an), (rt, lst vs n)] sz1 (tk1 + 3) [3] (hA.le (by decide)) D1 E1 (by kernel_rfl) ⟨by decide, by kernel_rfl, rfl⟩ (fun _ => rfl) fun r2 h2 sz2 tk2 hX2 D2 E2 => ?_
      exact ga (IH tk1 (tk1 + 2) (n + 1)) [] [0,1,2,3] hA (hA1.le (by decide)) D2 E2 (by kernel_rfl) (by decide) rfl
    · refine lcon_in rfl fun A hA hA1 h sz tk g d os D E0 => ?_
      refine gu (c_lnx it ua avs an i (.str (S [c1, c2, c3, c4, c5, c6, c7]) t) hi) [2] [(L, esF (tf w false).params x rt b1 b2 (some (a, ch, tc))), (it, liO ua i), (ua, lst avs an), (rt, lst vs n)] sz tk [1,2] (hA.le (by decide)) D E0 (by kernel_rfl) ⟨by decide, by kernel_rfl, rfl⟩ (fun _ => rfl) fun r1 h1 sz1 tk1 hX1 D1 E1 => ?_
      refine gu (c_append rt (.str (S (tUAs ++ [c1, c2, c3, c4, c5, c6, c7])) (tk1 + 2)) vs n hv2) [1,1,1,4,4,4,4,1] [(L, fra [nt w.params k_self b1 (.ref x), nt w.params k_ret b2 (.ref rt), nt w.params k_agent a (.str (S [c1, c2, c3, c4, c5, c6, c7]) t)] 3), (it, liO ua (i + 1)), (ua, lst avs an), (rt, lst vs n)] sz1 (tk1 + 3) [3] (hA.le (by decide)) D1 E1 (by kernel_rfl) ⟨by decide, by kernel_rfl, rfl⟩ (fun _ => rfl) fun r2 h2 sz2 tk2 hX2 D2 E2 => ?_
      exact ga (IH a (tk1 + 2) (n + 1)) [] [0,1,2,3] hA (hA1.le (by decide)) D2 E2 (by kernel_rfl) (by decide) rfl
theorem es_step8 (w : World) (L it ua rt x : Addr) (b1 b2 : Tok) (avs : List Value) (an i : Nat) (c1 c2 c3 c4 c5 c6 c7 c8 : Nat) (t : Tok) (hi : avs[i]? = some (.str (S [c1, c2, c3, c4, c5, c6, c7, c8]) t)) (o : Option (Tok × Str × Tok)) (vs : List Value) (n : Nat) (hv2 : vs.length ≤ sizeLine) (β : Type) (fs2 : β → Facts) (X : β → Prop)
    (IH : ∀ (c t' : Tok) (n : Nat), LCon pw w (G w.params) 12 (esL L it) (esFs w.params L it ua rt x b1 b2 (liO ua (i + 1)) avs an (some (c, S [c1, c2, c3, c4, c5, c6, c7, c8], t)) (vs ++ [.str (S (tUAs ++ [c1, c2, c3, c4, c5, c6, c7, c8])) t']) n) (fun _ => .ok .next) fs2 X) :
    LCon pw w (G w.params) 12 (esL L it) (esFs w.params L it ua rt x b1 b2 (liO ua i) avs an o vs n) (fun _ => .ok .next) fs2 X := by
  induction w using tf_all with
  | ht w =>
    rcases o with _ | ⟨a, ch, tc⟩
    · refine lcon_in rfl fun A hA hA1 h sz tk g d os D E0 => ?_
      refine gu (c_lnx it ua avs an i (.str (S [c1, c2, c3, c4, c5, c6, c7, c8]) t) hi) [2] [(L, esF (tf w true).params x rt b1 b2 none), (it, liO ua i), (ua, lst avs an), (rt, lst vs n)] sz tk [1,2] (hA.le (by decide)) D E0 (by kernel_rfl) ⟨by decide, by kernel_rfl, rfl⟩ (fun _ => rfl) fun r1 h1 sz1 tk1 hX1 D1 E1 => ?_
      refine gu (c_append rt (.str (S (tUAs ++ [c1, c2, c3, c4, c5, c6, c7, c8])) (tk1 + 3)) vs n hv2) [1,1,1,4,4,4,4,1] [(L, fra [nt w.params k_self b1 (.ref x), nt w.params k_ret b2 (.ref rt), nt w.params k_agent tk1 (.str (S [c1, c2, c3, c4, c5, c6, c7, c8]) t)] 3), (it, liO ua (i + 1)), (ua, lst avs an), (rt, lst vs n)] sz1 (tk1 + 4) [3] (hA.le (by decide)) D1 E1 (by kernel_rfl) ⟨by decide, by kernel_rfl, rfl⟩ (fun _ => rfl) fun r2 h2 sz2 tk2 hX2 D2 E2 => ?_
      exact ga (IH tk1 (tk1 + 3) (n + 1)) [] [0,1,2,3] hA (hA1.le (by decide)) D2 E2 (by kernel_rfl) (by decide) rfl
    · refine lcon_in rfl fun A hA hA1 h sz tk g d os D E0 => ?_
      refine gu (c_lnx it ua avs an i (.str (S [c1, c2, c3, c4, c5, c6, c7, c8]) t) hi) [2] [(L, esF (tf w true).params x rt b1 b2 (some (a, ch, tc))), (it, liO ua i), (ua, lst avs an), (rt, lst vs n)] sz tk [1,2] (hA.le (by decide)) D E0 (by kernel_rfl) ⟨by decide, by kernel_rfl, rfl⟩ (fun _ => rfl) fun r1 h1 sz1 tk1 hX1 D1 E1 => ?_
      refine gu (c_append rt (.str (S (tUAs ++ [c1, c2, c3, c4, c5, c6, c7, c8])) (tk1 + 3)) vs n hv2) [1,1,1,4,4,4,4,1] [(L, fra [nt w.params k_self b1 (.ref x), nt w.params k_ret b2 (.ref rt), nt w.params k_agent a (.str (S [c1, c2, c3, c4, c5, c6, c7, c8]) t)] 3), (it, liO ua (i + 1)), (ua, lst avs an), (rt, lst vs n)] sz1 (tk1 + 4) [3] (hA.le (by decide)) D1 E1 (by kernel_rfl) ⟨by decide, by kernel_rfl, rfl⟩ (fun _ => rfl) fun r2 h2 sz2 tk2 hX2 D2 E2 => ?_
      exact ga (IH a (tk1 + 3) (n + 1)) [] [0,1,2,3] hA (hA1.le (by decide)) D2 E2 (by kernel_rfl) (by decide) rfl
  | hf w =>
    rcases o with _ | ⟨a, ch, tc⟩
    · refine lcon_in rfl fun A hA hA1 h sz tk g d os D E0 => ?_
      refine gu (c_lnx it ua avs an i (.str (S [c1, c2, c3, c4, c5, c6, c7, c8]) t) hi) [2] [(L, esF (tf w false).params x rt b1 b2 none), (it, liO ua i), (ua, lst avs an), (rt, lst vs n)] sz tk [1,2] (hA.le (by decide)) D E0 (by kernel_rfl) ⟨by decide, by kernel_rfl, rfl⟩ (fun _ => rfl) fun r1 h1 sz1 tk1 hX1 D1 E1 => ?_
      refine gu (c_append rt (.str (S (tUAs ++ [c1, c2, c3, c4, c5, c6, c7, c8])) (tk1 + 2)) vs n hv2) [1,1,1,4,4,4,4,1] [(L, fra [nt w.params k_self b1 (.ref x), nt w.params k_ret b2 (.ref rt), nt w.params k_agent tk1 (.str (S [c1, c2, c3, c4, c5, c6, c7, c8]) t)] 3), (it, liO ua (i + 1)), (ua, lst avs an), (rt, lst vs n)] sz1 (tk1 + 3) [3] (hA.le (by decide)) D1 E1 (by kernel_rfl) ⟨by decide, by kernel_rfl, rfl⟩ (fun _ => rfl) fun r2 h2 sz2 tk2 hX2 D2 E2 => ?_
      exact ga (IH tk1 (tk1 + 2) (n + 1)) [] [0,1,2,3] hA (hA1.le (by decide)) D2 E2 (by kernel_rfl) (by decide) rfl
    · refine lcon_in rfl fun A hA hA1 h sz tk g d os D E0 => ?_
      refine gu (c_lnx it ua avs an i (.str (S [c1, c2, c3, c4, c5, c6, c7, c8]) t) hi) [2] [(L, esF (tf w false).params x rt b1 b2 (some (a, ch, tc))), (it, liO ua i), (ua, lst avs an), (rt, lst vs n)] sz tk [1,2] (hA.le (by decide)) D E0 (by kernel_rfl) ⟨by decide, by kernel_rfl, rfl⟩ (fun _ => rfl) fun r1 h1 sz1 tk1 hX1 D1 E1 => ?_
      refine gu (c_append rt (.str (S (tUAs ++ [c1, c2, c3, c4, c5, c6, c7, c8])) (tk1 + 2)) vs n hv2) [1,1,1,4,4,4,4,1] [(L, fra [nt w.params k_self b1 (.ref x), nt w.params k_ret b2 (.ref rt), nt w.params k_agent a (.str (S [c1, c2, c3, c4, c5, c6, c7, c8]) t)] 3), (it, liO ua (i + 1)), (ua, lst avs an), (rt, lst vs n)] sz1 (tk1 + 3) [3] (hA.le (by decide)) D1 E1 (by kernel_rfl) ⟨by decide, by kernel_rfl, rfl⟩ (fun _ => rfl) fun r2 h2 sz2 tk2 hX2 D2 E2 => ?_
      exact ga (IH a (tk1 + 2) (n + 1)) [] [0,1,2,3] hA (hA1.le (by decide)) D2 E2 (by kernel_rfl) (by decide) rfl
theorem es_stop (w : World) (L it ua rt x : Addr) (b1 b2 : Tok) (avs : List Value) (an i : Nat) (hi : avs[i]? = none) (a : Tok) (ch : Str) (tc : Tok) (vs : List Value) (n : Nat) :
    LCon pw w (G w.params) 12 (esL L it) (esFs w.params L it ua rt x b1 b2 (liO ua i) avs an (some (a, ch, tc)) vs n) (fun _ : Unit => .ok .next) (fun _ => esFs w.params L it ua rt x b1 b2 (liX i) avs an (some (a, ch, tc)) vs n) (fun _ => True) := by
  refine lcon_in rfl fun A hA hA1 h sz tk g d os D E0 => ?_
  refine gu (c_lnE it ua avs an i hi) [2] [(L, esF w.params x rt b1 b2 (some (a, ch, tc))), (it, liO ua i), (ua, lst avs an), (rt, lst vs n)] sz tk [1,2] (hA.le (by decide)) D E0 (by kernel_rfl) ⟨by decide, by kernel_rfl, rfl⟩ (fun _ => rfl) fun y1 h1 sz1 tk1 hX1 D1 E1 => ?_
  refine gt (Code.block [] (esE L)) [6] [(L, esF w.params x rt b1 b2 (some (a, ch, tc))), (it, liX i), (ua, lst avs an), (rt, lst vs n), (y1.1, tup []), (y1.2, excO y1.fst)] sz1 tk1 hA hA1 D1 E1 (by kernel_rfl) (by kernel_rfl) (by kernel_rfl) fun h2 hA2 D2 E2 => ?_
  exact gf (()) [] [0,1,2,3] hA2 D2 E2 (by kernel_rfl) (by decide) rfl (trivial)
end Mine
end
set_option maxHeartbeats 1000000
noncomputable section
namespace Mine
theorem c_joinV {prog : Program} {w : World} {G : Nat → Option Obj} (sep : List Nat) (t : Tok) (a : Addr) (vs : List Value) (ps : Pcs) (n : Nat) (T : List Nat) (hvs : vs = stv ps) (hl : tot sep.length (ps.map (·.1)) ≤ 1000000) (hT : jn sep (ps.map (·.1)) = T) :
    Con prog w G 0 (.call (.builtin "str.join") ⟨[.str (S sep) t, .ref a], []⟩) [(a, lst vs n)] (fun u : Tok => ret (.str (S T) u)) (fun _ => [(a, lst vs n)]) (fun _ => True) := by
  subst hvs
  subst hT
  exact c_join sep t a ps n hl
theorem c_ifmt {prog : Program} {w : World} {G : Nat → Option Obj} (N : Nat) (l : List Nat) (hl : dig N = l) (hN : N < 1000) (t u : Tok) :
    Con prog w G 0 (.call (.builtin "int.__format__") ⟨[.int N t, .str nilS u], []⟩) [] (fun t' : Tok => ret (.str (S l) t')) (fun _ => []) (fun _ => True) := by
  intro A hA h sz tk g d os D
  subst hl
  have hd : (N : Int).natAbs.log2 < 1920 := by
    show N.log2 < 1920
    by_cases h0 : N = 0
    · subst h0; decide
    · exact Nat.lt_of_lt_of_le ((Nat.log2_lt h0).mpr (show N < 2 ^ 10 by omega)) (by decide)
  refine Ok.of_call (call_gives F.slot_int_format (typeIs_int _ N t) F.entry_int_format (F.args_int_format_2 _ _) (gives_int_format_empty N t u hd) ⟨int_text_fits hd, ?_⟩)
  refine post_same tk D ?_ rfl trivial
  show ret (.str (PySem.Str.ofString (toString (N : Int))) tk) = ret (.str (S (dig N)) tk)
  rw [dig_str]
theorem c_stri {prog : Program} {w : World} {G : Nat → Option Obj} (N : Nat) (l : List Nat) (hl : dig N = l) (hN : N < 1000) (t : Tok) :
    Con prog w G 0 (.call (.type "str") ⟨[.int N t], []⟩) [] (fun t' : Tok => ret (.str (S l) t')) (fun _ => []) (fun _ => True) := by
  intro A hA h sz tk g d os D
  subst hl
  have hd : (N : Int).natAbs.log2 < 1920 := by
    show N.log2 < 1920
    by_cases h0 : N = 0
    · subst h0; decide
    · exact Nat.lt_of_lt_of_le ((Nat.log2_lt h0).mpr (show N < 2 ^ 10 by omega)) (by decide)
  refine Ok.of_call (PySem.P.str_of_int hd ?_)
  refine post_same tk D ?_ rfl trivial
  show ret (.str (PySem.Str.ofString (toString (N : Int))) tk) = ret (.str (S (dig N)) tk)
  rw [dig_str]
theorem dig_len : ∀ N < 1000, (dig N).length ≤ 3 := by decide +kernel
theorem tot_lem (m k : Nat) : ∀ (l : List (List Nat)), (∀ x ∈ l, x.length ≤ m) → tot k l ≤ (m + k) * l.length
  | [], _ => Nat.zero_le _
  | x :: l, h => by
    have := tot_lem m k l fun y hy => h y (.tail _ hy)
    have h2 := h x (.head _)
    show x.length + k + tot k l ≤ (m + k) * (l.length + 1)
    rw [Nat.mul_add]
    omega
theorem es_step (w : World) (L it ua rt x : Addr) (b1 b2 : Tok) (avs : List Value) (an i : Nat) (u : List Nat) (hu1 : 1 ≤ u.length) (hu8 : u.length ≤ 8) (t : Tok) (hi : avs[i]? = some (.str (S u) t)) (o : Option (Tok × Str × Tok)) (vs : List Value) (n : Nat) (hv2 : vs.length ≤ sizeLine) (β : Type) (fs2 : β → Facts) (X : β → Prop)
    (IH : ∀ (c t' : Tok) (n : Nat), LCon pw w (G w.params) 12 (esL L it) (esFs w.params L it ua rt x b1 b2 (liO ua (i + 1)) avs an (some (c, S u, t)) (vs ++ [.str (S (tUAs ++ u)) t']) n) (fun _ => .ok .next) fs2 X) :
    LCon pw w (G w.params) 12 (esL L it) (esFs w.params L it ua rt x b1 b2 (liO ua i) avs an o vs n) (fun _ => .ok .next) fs2 X := by
  cases u with
  | nil => exact absurd hu1 (by decide)
  | cons c1 u =>
    cases u with
    | nil => exact es_step1 w L it ua rt x b1 b2 avs an i c1 t hi o vs n hv2 β fs2 X IH
    | cons c2 u =>
      cases u with
      | nil => exact es_step2 w L it ua rt x b1 b2 avs an i c1 c2 t hi o vs n hv2 β fs2 X IH
      | cons c3 u =>
        cases u with
        | nil => exact es_step3 w L it ua rt x b1 b2 avs an i c1 c2 c3 t hi o vs n hv2 β fs2 X IH
        | cons c4 u =>
          cases u with
          | nil => exact es_step4 w L it ua rt x b1 b2 avs an i c1 c2 c3 c4 t hi o vs n hv2 β fs2 X IH
          | cons c5 u =>
            cases u with
            | nil => exact es_step5 w L it ua rt x b1 b2 avs an i c1 c2 c3 c4 c5 t hi o vs n hv2 β fs2 X IH
            | cons c6 u =>
              cases u with
              | nil => exact es_step6 w L it ua rt x b1 b2 avs an i c1 c2 c3 c4 c5 c6 t hi o vs n hv2 β fs2 X IH
              | cons c7 u =>
                cases u with
                | nil => exact es_step7 w L it ua rt x b1 b2 avs an i c1 c2 c3 c4 c5 c6 c7 t hi o vs n hv2 β fs2 X IH
                | cons c8 u =>
                  cases u with
                  | nil => exact es_step8 w L it ua rt x b1 b2 avs an i c1 c2 c3 c4 c5 c6 c7 c8 t hi o vs n hv2 β fs2 X IH
                  | cons c9 u =>
                    simp only [List.length_cons] at hu8
                    exact absurd hu8 (by omega)
structure ESo where
  ps : Pcs
  a : Tok
  ch : Str
  (tc : Tok)
  n : Nat
theorem map_getD {α β : Type} (d : α) (g : α → β) : ∀ (l : List α), (List.range' 0 l.length).map (fun i => g (l.getD i d)) = l.map g := by
  intro l
  apply List.ext_getElem
  · simp
  · intro i h1 h2
    simp at h1
    simp [List.getD, h1]
theorem stv_get : ∀ (qs : Pcs) (i : Nat), i < qs.length → (stv qs)[i]? = some (.str (S (qs.getD i ([], 0)).1) (qs.getD i ([], 0)).2)
  | [], i, h => absurd h (Nat.not_lt_zero i)
  | q :: qs, 0, h => rfl
  | q :: qs, i + 1, h => stv_get qs i (Nat.lt_of_succ_lt_succ h)
theorem stv_end (qs : Pcs) : (stv qs)[qs.length]? = none := by
  rw [List.getElem?_eq_none_iff, stv_len]
  exact Nat.le_refl _
theorem es_loop (w : World) (L it ua rt x : Addr) (b1 b2 : Tok) (qs : Pcs) (an : Nat) (h0 : 0 < qs.length) (hq : ∀ q ∈ qs, 1 ≤ q.1.length ∧ q.1.length ≤ 8) (hl : qs.length ≤ 100) :
    LCon pw w (G w.params) 12 (esL L it) (esFs w.params L it ua rt x b1 b2 (liO ua 0) (stv qs) an none [] 0) (fun _ : ESo => .ok .next) (fun r => esFs w.params L it ua rt x b1 b2 (liX qs.length) (stv qs) an (some (r.a, r.ch, r.tc)) (stv r.ps) r.n) (fun r => r.ps.map (·.1) = qs.map fun q => tUAs ++ q.1) := by
  have W := walk2 (lev := 12) (code := esL L it) (prog := pw) (w := w) (G := G w.params) (σ := Option (Tok × Str × Tok) × Nat)
    (fun i s vs => esFs w.params L it ua rt x b1 b2 (liO ua i) (stv qs) an s.1 vs s.2) (fun s vs => esFs w.params L it ua rt x b1 b2 (liX qs.length) (stv qs) an s.1 vs s.2) (fun i s vs => vs.length = i ∧ (0 < i → ∃ x, s.1 = some x))
    (fun i us => ∃ t, us = [.str (S (tUAs ++ (qs.getD i ([], 0)).1)) t]) qs.length
    (fun i s vs β fs2 X hI hi IH => by
      have hm := hq (qs.getD i ([], 0)) (by simp [List.getD, hi])
      refine es_step w L it ua rt x b1 b2 (stv qs) an i _ hm.1 hm.2 _ (stv_get qs i hi) s.1 vs s.2 (by rw [hI.1]; show _ ≤ 2 ^ 24; omega) β fs2 X fun c t' n => ?_
      exact IH (some (c, _, _), n) _ ⟨by rw [List.length_append, hI.1]; rfl, fun _ => ⟨_, rfl⟩⟩ ⟨t', rfl⟩)
    (fun s vs hI => by
      obtain ⟨o, n⟩ := s
      obtain ⟨⟨a, ch, tc⟩, ho⟩ := hI.2 h0
      cases ho
      exact (es_stop w L it ua rt x b1 b2 (stv qs) an qs.length (stv_end qs) a ch tc vs n).map (fun _ => (some (a, ch, tc), n)) fun _ _ => ⟨rfl, rfl, hI⟩)
    qs.length 0 (none, 0) [] (Nat.zero_add _) ⟨rfl, fun h => absurd h (Nat.lt_irrefl 0)⟩
  refine W.ex fun r hr => ?_
  obtain ⟨ps, e, hp⟩ := Gl.strs (fun i => tUAs ++ (qs.getD i ([], 0)).1) (fun i us h => h) hr.1
  obtain ⟨⟨a, ch, tc⟩, ex⟩ := hr.2.2 h0
  refine ⟨⟨ps, a, ch, tc, r.1.2⟩, rfl, ?_, hp.trans (map_getD ([], 0) (fun q => tUAs ++ q.1) qs)⟩
  show esFs _ _ _ _ _ _ _ _ _ _ _ r.1.1 ([] ++ r.2) _ = _
  rw [e, ex]
  rfl
/-! ## Entry.__str__ -/
noncomputable def esC (x : Addr) : Code := .call (.ref 84) ⟨[.ref x], []⟩
theorem c_es_nil (w : World) (e : EX) (dv rv : Value) (n : Nat) :
    LCon pw w (G w.params) 16 (esC e.x) (e.fs w.params dv rv [] n) (fun o : Tok => ret (.str (S []) o)) (fun o => e.fs w.params dv rv [] n) (fun _ => True) := by
  refine lcon_in rfl fun A hA hA1 h sz tk g d os D E0 => ?_
  refine gd (Code.func (bodOf esS) (esE sz)) [0,0,5,5] [(e.1, (⟨(.ref 101), some e.2, .plain, #[]⟩ : Obj)), (e.2, enD w.params e dv rv), (e.3, lst [] n), (e.4, lst [] 0), (sz, fra [nt w.params k_self tk (.ref e.1)] 1)] (sz + 1) (tk + 1) hA hA1 D E0 (by kernel_rfl) rfl rfl fun h1 hA2 D1 E1 => ?_
  exact gf (tk + 4) [5,1,0,0,0,0,1,0,0,0,1,1,0,2,3,3,0,3,0,3,0,3] [0,1,2,3] hA2 D1 E1 (by kernel_rfl) (by decide) rfl (trivial)
noncomputable def tCDs : List Nat := [67,114,97,119,108,45,100,101,108,97,121,58,32]
/-- the rows of a record with agents -/
noncomputable def enR (qs : List (List Nat)) (mid : List (List Nat)) : List (List Nat) := (qs.map fun q => tUAs ++ q) ++ mid ++ [tAL]
theorem enR_tot (qs mid : List (List Nat)) (hq : ∀ q ∈ qs, q.length ≤ 8) (hm : ∀ q ∈ mid, q.length ≤ 20) (hl : qs.length ≤ 100) (hl2 : mid.length ≤ 2) : tot ([10] : List Nat).length (enR qs mid) ≤ 1000000 := by
  refine Nat.le_trans (tot_lem 20 1 (enR qs mid) fun x hx => ?_) ?_
  · unfold enR at hx
    rcases List.mem_append.mp hx with hx | hx
    · rcases List.mem_append.mp hx with hx | hx
      · obtain ⟨q, hq', rfl⟩ := List.mem_map.mp hx
        have := hq q hq'
        rw [List.length_append]
        show 12 + q.length ≤ 20
        omega
      · exact hm x hx
    · cases List.mem_singleton.mp hx
      decide
  · unfold enR
    rw [List.length_append, List.length_append, List.length_map]
    show 21 * (qs.length + mid.length + 1) ≤ 1000000
    omega
theorem q_map (qs : Pcs) (ps : Pcs) (mid : List (List Nat)) (hX : ps.map (·.1) = qs.map fun q => tUAs ++ q.1) : ps.map (·.1) ++ mid ++ [tAL] = enR (qs.map (·.1)) mid := by
  rw [hX]
  unfold enR
  rw [List.map_map]
  rfl
theorem c_es_none (w : World) (e : EX) (q : List Nat × Tok) (qs : Pcs) (n : Nat) (hq : ∀ q' ∈ q :: qs, 1 ≤ q'.1.length ∧ q'.1.length ≤ 8) (hl : (q :: qs).length ≤ 100) (hl60 : (stv (q :: qs)).length < 2 ^ 60) :
    LCon pw w (G w.params) 16 (esC e.x) (e.fs w.params .none .none (stv (q :: qs)) n) (fun o : Tok => ret (.str (S (jn [10] (enR ((q :: qs).map fun q => q.1) []))) o)) (fun o => e.fs w.params .none .none (stv (q :: qs)) n) (fun _ => True) := by
  refine lcon_in rfl fun A hA hA1 h sz tk g d os D E0 => ?_
  refine gd (Code.func (bodOf esS) (esE sz)) [0,0,5,5] [(e.1, (⟨(.ref 101), some e.2, .plain, #[]⟩ : Obj)), (e.2, enD w.params e .none .none), (e.3, lst (stv (q :: qs)) n), (e.4, lst [] 0), (sz, fra [nt w.params k_self tk (.ref e.1)] 1)] (sz + 1) (tk + 1) hA hA1 D E0 (by kernel_rfl) rfl rfl fun h1 hA2 D1 E1 => ?_
  refine gu (c_len e.ua (stv (q :: qs)) n hl60) [5,1,0,0,0,0,1,0,0,0,1,1,0,2,3,3] [(e.1, (⟨(.ref 101), some e.2, .plain, #[]⟩ : Obj)), (e.2, enD w.params e .none .none), (e.3, lst (stv (q :: qs)) n), (e.4, lst [] 0), (sz, fra [nt w.params k_self tk (.ref e.x)] 1)] (sz + 1) (tk + 2) [2] (hA2.le (by decide)) D1 E1 (by kernel_rfl) ⟨by decide, by kernel_rfl, rfl⟩ (fun _ => rfl) fun t2 h2 sz2 tk2 hX2 D2 E2 => ?_
  refine gu (LCon.con (es_loop w sz (sz2 + 1) e.ua sz2 e.x tk tk2 (q :: qs) n (Nat.succ_pos (List.length qs)) hq hl)) [5,5,5,1,0,0,0,0,1,0,0,0,1,1,0,2,3,3,0,3,0,7] [(e.1, (⟨(.ref 101), some e.2, .plain, #[]⟩ : Obj)), (e.2, enD w.params e .none .none), (e.3, lst (stv (q :: qs)) n), (e.4, lst [] 0), (sz, fra [nt w.params k_self tk (.ref e.1), nt w.params k_ret tk2 (.ref sz2)] 2), (sz2, lst [] 0), ((sz2 + 1), fld "list_iterator" [(.ref e.3), (.int 0 0)])] (sz2 + 2) (tk2 + 2) [4,6,2,5] (hA2.le (by decide)) D2 E2 (by generalize w = w'; revert w'; exact tw_fa (by kernel_rfl) (by kernel_rfl)) ⟨by decide, by kernel_rfl, rfl⟩ (fun _ => rfl) fun o3 h3 sz3 tk3 hX3 D3 E3 => ?_
  have hlen : o3.ps.length ≤ 100 := by
    have := congrArg List.length hX3
    rw [List.length_map, List.length_map] at this
    omega
  have hv : (stv o3.ps).length ≤ sizeLine := by rw [stv_len]; show _ ≤ 2 ^ 24; omega
  refine gu (c_append sz2 (.str (S tAL) (tk3 + 5)) (stv o3.ps) o3.n hv) [5,1,0,0,0,0,1,0,0,0,1,1,0,2,5,1,0,0,0,0,1,0,0,0,1,1,0,2,5,1,0,0,0,0,1,0,0,0,1,1,0,2,4,4,0,4,0,4,0,4,5,6,6,6,6] [(e.1, (⟨(.ref 101), some e.2, .plain, #[]⟩ : Obj)), (e.2, enD w.params e .none .none), (e.3, lst (stv (q :: qs)) n), (e.4, lst [] 0), (sz, esF w.params e.x sz2 tk tk2 (some (o3.a, o3.ch, o3.tc))), (sz2, lst (stv o3.ps) o3.n), ((sz2 + 1), liX (q :: qs).length)] sz3 (tk3 + 6) [5] (hA2.le (by decide)) D3 E3 (by generalize w = w'; revert w'; exact tw_fa (by kernel_rfl) (by kernel_rfl)) ⟨by decide, by kernel_rfl, rfl⟩ (fun _ => rfl) fun r4 h4 sz4 tk4 hX4 D4 E4 => ?_
  have hvs : stv o3.ps ++ [.str (S tAL) (tk3 + 5)] = stv (o3.ps ++ [(tAL, tk3 + 5)]) := by rw [stv_app]; rfl
  have hm : (o3.ps ++ [(tAL, tk3 + 5)]).map (fun p : List Nat × Tok => p.1) = enR ((q :: qs).map fun q => q.1) [] := by
    rw [List.map_append, ← q_map (q :: qs) o3.ps [] hX3, List.append_nil]
    rfl
  have ht : tot ([10] : List Nat).length ((o3.ps ++ [(tAL, tk3 + 5)]).map (fun p : List Nat × Tok => p.1)) ≤ 1000000 := by
    rw [hm]
    refine enR_tot _ _ (fun x hx => ?_) (fun x hx => nomatch hx) (by rw [List.length_map]; exact hl) (by decide)
    obtain ⟨y, hy, rfl⟩ := List.mem_map.mp hx
    exact (hq y hy).2
  have hJ := congrArg (jn [10]) hm
  refine gu (c_joinV [10] tk4 sz2 (stv o3.ps ++ [.str (S tAL) (tk3 + 5)]) (o3.ps ++ [(tAL, tk3 + 5)]) (o3.n + 1) (jn [10] (enR (List.map (fun q => q.fst) (q :: qs)) [])) hvs ht hJ) [5] [(e.1, (⟨(.ref 101), some e.2, .plain, #[]⟩ : Obj)), (e.2, enD w.params e .none .none), (e.3, lst (stv (q :: qs)) n), (e.4, lst [] 0), (sz, esF w.params e.x sz2 tk tk2 (some (o3.a, o3.ch, o3.tc))), (sz2, lst (stv o3.ps ++ [.str (S tAL) (tk3 + 5)]) (o3.n + 1)), ((sz2 + 1), liX (q :: qs).length)] sz4 (tk4 + 1) [5] (hA2.le (by decide)) D4 E4 (by generalize w = w'; revert w'; exact tw_fa (by kernel_rfl) (by kernel_rfl)) ⟨by decide, by kernel_rfl, rfl⟩ (fun _ => rfl) fun t5 h5 sz5 tk5 hX5 D5 E5 => ?_
  exact gf (t5) [] [0,1,2,3] hA2 D5 E5 (by generalize w = w'; revert w'; exact tw_fa (by kernel_rfl) (by kernel_rfl)) (by decide) rfl (trivial)
theorem c_es_int1 (w : World) (e : EX) (N : Nat) (c1 : Nat) (hd : dig N = [c1]) (hN : N < 1000) (tN : Tok) (q : List Nat × Tok) (qs : Pcs) (n : Nat) (hq : ∀ q' ∈ q :: qs, 1 ≤ q'.1.length ∧ q'.1.length ≤ 8) (hl : (q :: qs).length ≤ 100) (hl60 : (stv (q :: qs)).length < 2 ^ 60) :
    LCon pw w (G w.params) 16 (esC e.x) (e.fs w.params (.int N tN) .none (stv (q :: qs)) n) (fun o : Tok => ret (.str (S (jn [10] (enR ((q :: qs).map fun q => q.1) [tCDs ++ [c1]]))) o)) (fun o => e.fs w.params (.int N tN) .none (stv (q :: qs)) n) (fun _ => True) := by
  refine lcon_in rfl fun A hA hA1 h sz tk g d os D E0 => ?_
  refine gd (Code.func (bodOf esS) (esE sz)) [0,0,5,5] [(e.1, (⟨(.ref 101), some e.2, .plain, #[]⟩ : Obj)), (e.2, enD w.params e (.int (↑N) tN) .none), (e.3, lst (stv (q :: qs)) n), (e.4, lst [] 0), (sz, fra [nt w.params k_self tk (.ref e.1)] 1)] (sz + 1) (tk + 1) hA hA1 D E0 (by kernel_rfl) rfl rfl fun h1 hA2 D1 E1 => ?_
  refine gu (c_len e.ua (stv (q :: qs)) n hl60) [5,1,0,0,0,0,1,0,0,0,1,1,0,2,3,3] [(e.1, (⟨(.ref 101), some e.2, .plain, #[]⟩ : Obj)), (e.2, enD w.params e (.int (↑N) tN) .none), (e.3, lst (stv (q :: qs)) n), (e.4, lst [] 0), (sz, fra [nt w.params k_self tk (.ref e.x)] 1)] (sz + 1) (tk + 2) [2] (hA2.le (by decide)) D1 E1 (by kernel_rfl) ⟨by decide, by kernel_rfl, rfl⟩ (fun _ => rfl) fun t2 h2 sz2 tk2 hX2 D2 E2 => ?_
  refine gu (LCon.con (es_loop w sz (sz2 + 1) e.ua sz2 e.x tk tk2 (q :: qs) n (Nat.succ_pos (List.length qs)) hq hl)) [5,5,5,1,0,0,0,0,1,0,0,0,1,1,0,2,3,3,0,3,0,7] [(e.1, (⟨(.ref 101), some e.2, .plain, #[]⟩ : Obj)), (e.2, enD w.params e (.int (↑N) tN) .none), (e.3, lst (stv (q :: qs)) n), (e.4, lst [] 0), (sz, fra [nt w.params k_self tk (.ref e.1), nt w.params k_ret tk2 (.ref sz2)] 2), (sz2, lst [] 0), ((sz2 + 1), fld "list_iterator" [(.ref e.3), (.int 0 0)])] (sz2 + 2) (tk2 + 2) [4,6,2,5] (hA2.le (by decide)) D2 E2 (by generalize w = w'; revert w'; exact tw_fa (by kernel_rfl) (by kernel_rfl)) ⟨by decide, by kernel_rfl, rfl⟩ (fun _ => rfl) fun o3 h3 sz3 tk3 hX3 D3 E3 => ?_
  have hlen : o3.ps.length ≤ 100 := by
    have := congrArg List.length hX3
    rw [List.length_map, List.length_map] at this
    omega
  have hv : (stv o3.ps).length ≤ sizeLine := by rw [stv_len]; show _ ≤ 2 ^ 24; omega
  refine gu (c_ifmt N [c1] hd hN tN (tk3 + 3)) [5,1,0,0,0,0,1,0,0,0,1,1,0,2,5,6,6,6,6,5,1,0,0,0,0,1,0,0,0,1,1,0,2] [(e.1, (⟨(.ref 101), some e.2, .plain, #[]⟩ : Obj)), (e.2, enD w.params e (.int (↑N) tN) .none), (e.3, lst (stv (q :: qs)) n), (e.4, lst [] 0), (sz, esF w.params e.x sz2 tk tk2 (some (o3.a, o3.ch, o3.tc))), (sz2, lst (stv o3.ps) o3.n), ((sz2 + 1), liX (q :: qs).length)] sz3 (tk3 + 4) [] (hA2.le (by decide)) D3 E3 (by generalize w = w'; revert w'; exact tw_fa (by kernel_rfl) (by kernel_rfl)) ⟨by decide, by kernel_rfl, rfl⟩ (fun _ => rfl) fun t4 h4 sz4 tk4 hX4 D4 E4 => ?_
  refine gu (c_append sz2 (.str (S (tCDs ++ [c1])) tk4) (stv o3.ps) o3.n hv) [] [(e.1, (⟨(.ref 101), some e.2, .plain, #[]⟩ : Obj)), (e.2, enD w.params e (.int (↑N) tN) .none), (e.3, lst (stv (q :: qs)) n), (e.4, lst [] 0), (sz, esF w.params e.x sz2 tk tk2 (some (o3.a, o3.ch, o3.tc))), (sz2, lst (stv o3.ps) o3.n), ((sz2 + 1), liX (q :: qs).length)] sz4 (tk4 + 1) [5] (hA2.le (by decide)) D4 E4 (by generalize w = w'; revert w'; exact tw_fa (by kernel_rfl) (by kernel_rfl)) ⟨by decide, by kernel_rfl, rfl⟩ (fun _ => rfl) fun r5 h5 sz5 tk5 hX5 D5 E5 => ?_
  have hv2 : (stv o3.ps ++ [Value.str (S (tCDs ++ [c1])) tk4]).length ≤ sizeLine := by rw [List.length_append, stv_len]; show _ + 1 ≤ 2 ^ 24; omega
  refine gu (c_append sz2 (.str (S tAL) (tk5 + 4)) (stv o3.ps ++ [.str (S (tCDs ++ [c1])) tk4]) (o3.n + 1) hv2) [5,1,0,0,0,0,1,0,0,0,1,1,0,2,5,1,0,0,0,0,1,0,0,0,1,1,0,2,4,4,0,4,0,4,0,4,5,6,6,6,6] [(e.1, (⟨(.ref 101), some e.2, .plain, #[]⟩ : Obj)), (e.2, enD w.params e (.int (↑N) tN) .none), (e.3, lst (stv (q :: qs)) n), (e.4, lst [] 0), (sz, esF w.params e.x sz2 tk tk2 (some (o3.a, o3.ch, o3.tc))), (sz2, lst (stv o3.ps ++ [.str (S (tCDs ++ [c1])) tk4]) (o3.n + 1)), ((sz2 + 1), liX (q :: qs).length)] sz5 (tk5 + 5) [5] (hA2.le (by decide)) D5 E5 (by generalize w = w'; revert w'; exact tw_fa (by kernel_rfl) (by kernel_rfl)) ⟨by decide, by kernel_rfl, rfl⟩ (fun _ => rfl) fun r6 h6 sz6 tk6 hX6 D6 E6 => ?_
  have hvs : stv o3.ps ++ [.str (S (tCDs ++ [c1])) tk4] ++ [.str (S tAL) (tk5 + 4)] = stv (o3.ps ++ [(tCDs ++ [c1], tk4)] ++ [(tAL, tk5 + 4)]) := by rw [stv_app, stv_app]; rfl
  have hm : (o3.ps ++ [(tCDs ++ [c1], tk4)] ++ [(tAL, tk5 + 4)]).map (fun p : List Nat × Tok => p.1) = enR ((q :: qs).map fun q => q.1) [tCDs ++ [c1]] := by
    rw [List.map_append, List.map_append, ← q_map (q :: qs) o3.ps [tCDs ++ [c1]] hX3]
    rfl
  have ht : tot ([10] : List Nat).length ((o3.ps ++ [(tCDs ++ [c1], tk4)] ++ [(tAL, tk5 + 4)]).map (fun p : List Nat × Tok => p.1)) ≤ 1000000 := by
    rw [hm]
    refine enR_tot _ _ (fun x hx => ?_) (fun x hx => ?_) (by rw [List.length_map]; exact hl) (by simp)
    · obtain ⟨y, hy, rfl⟩ := List.mem_map.mp hx
      exact (hq y hy).2
    · cases List.mem_singleton.mp hx
      rw [List.length_append]
      show 14 ≤ 20
      decide
  have hJ := congrArg (jn [10]) hm
  refine gu (c_joinV [10] tk6 sz2 (stv o3.ps ++ [.str (S (tCDs ++ [c1])) tk4] ++ [.str (S tAL) (tk5 + 4)]) (o3.ps ++ [(tCDs ++ [c1], tk4)] ++ [(tAL, tk5 + 4)]) (o3.n + 1 + 1) (jn [10] (enR (List.map (fun q => q.fst) (q :: qs)) [tCDs ++ [c1]])) hvs ht hJ) [5] [(e.1, (⟨(.ref 101), some e.2, .plain, #[]⟩ : Obj)), (e.2, enD w.params e (.int (↑N) tN) .none), (e.3, lst (stv (q :: qs)) n), (e.4, lst [] 0), (sz, esF w.params e.x sz2 tk tk2 (some (o3.a, o3.ch, o3.tc))), (sz2, lst (stv o3.ps ++ [.str (S (tCDs ++ [c1])) tk4] ++ [.str (S tAL) (tk5 + 4)]) (o3.n + 1 + 1)), ((sz2 + 1), liX (q :: qs).length)] sz6 (tk6 + 1) [5] (hA2.le (by decide)) D6 E6 (by generalize w = w'; revert w'; exact tw_fa (by kernel_rfl) (by kernel_rfl)) ⟨by decide, by kernel_rfl, rfl⟩ (fun _ => rfl) fun t7 h7 sz7 tk7 hX7 D7 E7 => ?_
  exact gf (t7) [] [0,1,2,3] hA2 D7 E7 (by generalize w = w'; revert w'; exact tw_fa (by kernel_rfl) (by kernel_rfl)) (by decide) rfl (trivial)
theorem c_es_int2 (w : World) (e : EX) (N : Nat) (c1 c2 : Nat) (hd : dig N = [c1, c2]) (hN : N < 1000) (tN : Tok) (q : List Nat × Tok) (qs : Pcs) (n : Nat) (hq : ∀ q' ∈ q :: qs, 1 ≤ q'.1.length ∧ q'.1.length ≤ 8) (hl : (q :: qs).length ≤ 100) (hl60 : (stv (q :: qs)).length < 2 ^ 60) :
    LCon pw w (G w.params) 16 (esC e.x) (e.fs w.params (.int N tN) .none (stv (q :: qs)) n) (fun o : Tok => ret (.str (S (jn [10] (enR ((q :: qs).map fun q => q.1) [tCDs ++ [c1, c2]]))) o)) (fun o => e.fs w.params (.int N tN) .none (stv (q :: qs)) n) (fun _ => True) := by
  refine lcon_in rfl fun A hA hA1 h sz tk g d os D E0 => ?_
  refine gd (Code.func (bodOf esS) (esE sz)) [0,0,5,5] [(e.1, (⟨(.ref 101), some e.2, .plain, #[]⟩ : Obj)), (e.2, enD w.params e (.int (↑N) tN) .none), (e.3, lst (stv (q :: qs)) n), (e.4, lst [] 0), (sz, fra [nt w.params k_self tk (.ref e.1)] 1)] (sz + 1) (tk + 1) hA hA1 D E0 (by kernel_rfl) rfl rfl fun h1 hA2 D1 E1 => ?_
  refine gu (c_len e.ua (stv (q :: qs)) n hl60) [5,1,0,0,0,0,1,0,0,0,1,1,0,2,3,3] [(e.1, (⟨(.ref 101), some e.2, .plain, #[]⟩ : Obj)), (e.2, enD w.params e (.int (↑N) tN) .none), (e.3, lst (stv (q :: qs)) n), (e.4, lst [] 0), (sz, fra [nt w.params k_self tk (.ref e.x)] 1)] (sz + 1) (tk + 2) [2] (hA2.le (by decide)) D1 E1 (by kernel_rfl) ⟨by decide, by kernel_rfl, rfl⟩ (fun _ => rfl) fun t2 h2 sz2 tk2 hX2 D2 E2 => ?_
  refine gu (LCon.con (es_loop w sz (sz2 + 1) e.ua sz2 e.x tk tk2 (q :: qs) n (Nat.succ_pos (List.length qs)) hq hl)) [5,5,5,1,0,0,0,0,1,0,0,0,1,1,0,2,3,3,0,3,0,7] [(e.1, (⟨(.ref 101), some e.2, .plain, #[]⟩ : Obj)), (e.2, enD w.params e (.int (↑N) tN) .none), (e.3, lst (stv (q :: qs)) n), (e.4, lst [] 0), (sz, fra [nt w.params k_self tk (.ref e.1), nt w.params k_ret tk2 (.ref sz2)] 2), (sz2, lst [] 0), ((sz2 + 1), fld "list_iterator" [(.ref e.3), (.int 0 0)])] (sz2 + 2) (tk2 + 2) [4,6,2,5] (hA2.le (by decide)) D2 E2 (by generalize w = w'; revert w'; exact tw_fa (by kernel_rfl) (by kernel_rfl)) ⟨by decide, by kernel_rfl, rfl⟩ (fun _ => rfl) fun o3 h3 sz3 tk3 hX3 D3 E3 => ?_
  have hlen : o3.ps.length ≤ 100 := by
    have := congrArg List.length hX3
    rw [List.length_map, List.length_map] at this
    omega
  have hv : (stv o3.ps).length ≤ sizeLine := by rw [stv_len]; show _ ≤ 2 ^ 24; omega
  refine gu (c_ifmt N [c1, c2] hd hN tN (tk3 + 3)) [5,1,0,0,0,0,1,0,0,0,1,1,0,2,5,6,6,6,6,5,1,0,0,0,0,1,0,0,0,1,1,0,2] [(e.1, (⟨(.ref 101), some e.2, .plain, #[]⟩ : Obj)), (e.2, enD w.params e (.int (↑N) tN) .none), (e.3, lst (stv (q :: qs)) n), (e.4, lst [] 0), (sz, esF w.params e.x sz2 tk tk2 (some (o3.a, o3.ch, o3.tc))), (sz2, lst (stv o3.ps) o3.n), ((sz2 + 1), liX (q :: qs).length)] sz3 (tk3 + 4) [] (hA2.le (by decide)) D3 E3 (by generalize w = w'; revert w'; exact tw_fa (by kernel_rfl) (by kernel_rfl)) ⟨by decide, by kernel_rfl, rfl⟩ (fun _ => rfl) fun t4 h4 sz4 tk4 hX4 D4 E4 => ?_
  refine gu (c_append sz2 (.str (S (tCDs ++ [c1, c2])) tk4) (stv o3.ps) o3.n hv) [] [(e.1, (⟨(.ref 101), some e.2, .plain, #[]⟩ : Obj)), (e.2, enD w.params e (.int (↑N) tN) .none), (e.3, lst (stv (q :: qs)) n), (e.4, lst [] 0), (sz, esF w.params e.x sz2 tk tk2 (some (o3.a, o3.ch, o3.tc))), (sz2, lst (stv o3.ps) o3.n), ((sz2 + 1), liX (q :: qs).length)] sz4 (tk4 + 1) [5] (hA2.le (by decide)) D4 E4 (by generalize w = w'; revert w'; exact tw_fa (by kernel_rfl) (by kernel_rfl)) ⟨by decide, by kernel_rfl, rfl⟩ (fun _ => rfl) fun r5 h5 sz5 tk5 hX5 D5 E5 => ?_
  have hv2 : (stv o3.ps ++ [Value.str (S (tCDs ++ [c1, c2])) tk4]).length ≤ sizeLine := by rw [List.length_append, stv_len]; show _ + 1 ≤ 2 ^ 24; omega
  refine gu (c_append sz2 (.str (S tAL) (tk5 + 4)) (stv o3.ps ++ [.str (S (tCDs ++ [c1, c2])) tk4]) (o3.n + 1) hv2) [5,1,0,0,0,0,1,0,0,0,1,1,0,2,5,1,0,0,0,0,1,0,0,0,1,1,0,2,4,4,0,4,0,4,0,4,5,6,6,6,6] [(e.1, (⟨(.ref 101), some e.2, .plain, #[]⟩ : Obj)), (e.2, enD w.params e (.int (↑N) tN) .none), (e.3, lst (stv (q :: qs)) n), (e.4, lst [] 0), (sz, esF w.params e.x sz2 tk tk2 (some (o3.a, o3.ch, o3.tc))), (sz2, lst (stv o3.ps ++ [.str (S (tCDs ++ [c1, c2])) tk4]) (o3.n + 1)), ((sz2 + 1), liX (q :: qs).length)] sz5 (tk5 + 5) [5] (hA2.le (by decide)) D5 E5 (by generalize w = w'; revert w'; exact tw_fa (by kernel_rfl) (by kernel_rfl)) ⟨by decide, by kernel_rfl, rfl⟩ (fun _ => rfl) fun r6 h6 sz6 tk6 hX6 D6 E6 => ?_
  have hvs : stv o3.ps ++ [.str (S (tCDs ++ [c1, c2])) tk4] ++ [.str (S tAL) (tk5 + 4)] = stv (o3.ps ++ [(tCDs ++ [c1, c2], tk4)] ++ [(tAL, tk5 + 4)]) := by rw [stv_app, stv_app]; rfl
  have hm : (o3.ps ++ [(tCDs ++ [c1, c2], tk4)] ++ [(tAL, tk5 + 4)]).map (fun p : List Nat × Tok => p.1) = enR ((q :: qs).map fun q => q.1) [tCDs ++ [c1, c2]] := by
    rw [List.map_append, List.map_append, ← q_map (q :: qs) o3.ps [tCDs ++ [c1, c2]] hX3]
    rfl
  have ht : tot ([10] : List Nat).length ((o3.ps ++ [(tCDs ++ [c1, c2], tk4)] ++ [(tAL, tk5 + 4)]).map (fun p : List Nat × Tok => p.1)) ≤ 1000000 := by
    rw [hm]
    refine enR_tot _ _ (fun x hx => ?_) (fun x hx => ?_) (by rw [List.length_map]; exact hl) (by simp)
    · obtain ⟨y, hy, rfl⟩ := List.mem_map.mp hx
      exact (hq y hy).2
    · cases List.mem_singleton.mp hx
      rw [List.length_append]
      show 15 ≤ 20
      decide
  have hJ := congrArg (jn [10]) hm
  refine gu (c_joinV [10] tk6 sz2 (stv o3.ps ++ [.str (S (tCDs ++ [c1, c2])) tk4] ++ [.str (S tAL) (tk5 + 4)]) (o3.ps ++ [(tCDs ++ [c1, c2], tk4)] ++ [(tAL, tk5 + 4)]) (o3.n + 1 + 1) (jn [10] (enR (List.map (fun q => q.fst) (q :: qs)) [tCDs ++ [c1, c2]])) hvs ht hJ) [5] [(e.1, (⟨(.ref 101), some e.2, .plain, #[]⟩ : Obj)), (e.2, enD w.params e (.int (↑N) tN) .none), (e.3, lst (stv (q :: qs)) n), (e.4, lst [] 0), (sz, esF w.params e.x sz2 tk tk2 (some (o3.a, o3.ch, o3.tc))), (sz2, lst (stv o3.ps ++ [.str (S (tCDs ++ [c1, c2])) tk4] ++ [.str (S tAL) (tk5 + 4)]) (o3.n + 1 + 1)), ((sz2 + 1), liX (q :: qs).length)] sz6 (tk6 + 1) [5] (hA2.le (by decide)) D6 E6 (by generalize w = w'; revert w'; exact tw_fa (by kernel_rfl) (by kernel_rfl)) ⟨by decide, by kernel_rfl, rfl⟩ (fun _ => rfl) fun t7 h7 sz7 tk7 hX7 D7 E7 => ?_
  exact gf (t7) [] [0,1,2,3] hA2 D7 E7 (by generalize w = w'; revert w'; exact tw_fa (by kernel_rfl) (by kernel_rfl)) (by decide) rfl (trivial)
theorem c_es_int3 (w : World) (e : EX) (N : Nat) (c1 c2 c3 : Nat) (hd : dig N = [c1, c2, c3]) (hN : N < 1000) (tN : Tok) (q : List Nat × Tok) (qs : Pcs) (n : Nat) (hq : ∀ q' ∈ q :: qs, 1 ≤ q'.1.length ∧ q'.1.length ≤ 8) (hl : (q :: qs).length ≤ 100) (hl60 : (stv (q :: qs)).length < 2 ^ 60) :
    LCon pw w (G w.params) 16 (esC e.x) (e.fs w.params (.int N tN) .none (stv (q :: qs)) n) (fun o : Tok => ret (.str (S (jn [10] (enR ((q :: qs).map fun q => q.1) [tCDs ++ [c1, c2, c3]]))) o)) (fun o => e.fs w.params (.int N tN) .none (stv (q :: qs)) n) (fun _ => True) := by
  refine lcon_in rfl fun A hA hA1 h sz tk g d os D E0 => ?_
  refine gd (Code.func (bodOf esS) (esE sz)) [0,0,5,5] [(e.1, (⟨(.ref 101), some e.2, .plain, #[]⟩ : Obj)), (e.2, enD w.params e (.int (↑N) tN) .none), (e.3, lst (stv (q :: qs)) n), (e.4, lst [] 0), (sz, fra [nt w.params k_self tk (.ref e.1)] 1)] (sz + 1) (tk + 1) hA hA1 D E0 (by kernel_rfl) rfl rfl fun h1 hA2 D1 E1 => ?_
  refine gu (c_len e.ua (stv (q :: qs)) n hl60) [5,1,0,0,0,0,1,0,0,0,1,1,0,2,3,3] [(e.1, (⟨(.ref 101), some e.2, .plain, #[]⟩ : Obj)), (e.2, enD w.params e (.int (↑N) tN) .none), (e.3, lst (stv (q :: qs)) n), (e.4, lst [] 0), (sz, fra [nt w.params k_self tk (.ref e.x)] 1)] (sz + 1) (tk + 2) [2] (hA2.le (by decide)) D1 E1 (by kernel_rfl) ⟨by decide, by kernel_rfl, rfl⟩ (fun _ => rfl) fun t2 h2 sz2 tk2 hX2 D2 E2 => ?_
  refine gu (LCon.con (es_loop w sz (sz2 + 1) e.ua sz2 e.x tk tk2 (q :: qs) n (Nat.succ_pos (List.length qs)) hq hl)) [5,5,5,1,0,0,0,0,1,0,0,0,1,1,0,2,3,3,0,3,0,7] [(e.1, (⟨(.ref 101), some e.2, .plain, #[]⟩ : Obj)), (e.2, enD w.params e (.int (↑N) tN) .none), (e.3, lst (stv (q :: qs)) n), (e.4, lst [] 0), (sz, fra [nt w.params k_self tk (.ref e.1), nt w.params k_ret tk2 (.ref sz2)] 2), (sz2, lst [] 0), ((sz2 + 1), fld "list_iterator" [(.ref e.3), (.int 0 0)])] (sz2 + 2) (tk2 + 2) [4,6,2,5] (hA2.le (by decide)) D2 E2 (by generalize w = w'; revert w'; exact tw_fa (by kernel_rfl) (by kernel_rfl)) ⟨by decide, by kernel_rfl, rfl⟩ (fun _ => rfl) fun o3 h3 sz3 tk3 hX3 D3 E3 => ?_
  have hlen : o3.ps.length ≤ 100 := by
    have := congrArg List.length hX3
    rw [List.length_map, List.length_map] at this
    omega
  have hv : (stv o3.ps).length ≤ sizeLine := by rw [stv_len]; show _ ≤ 2 ^ 24; omega
  refine gu (c_ifmt N [c1, c2, c3] hd hN tN (tk3 + 3)) [5,1,0,0,0,0,1,0,0,0,1,1,0,2,5,6,6,6,6,5,1,0,0,0,0,1,0,0,0,1,1,0,2] [(e.1, (⟨(.ref 101), some e.2, .plain, #[]⟩ : Obj)), (e.2, enD w.params e (.int (↑N) tN) .none), (e.3, lst (stv (q :: qs)) n), (e.4, lst [] 0), (sz, esF w.params e.x sz2 tk tk2 (some (o3.a, o3.ch, o3.tc))), (sz2, lst (stv o3.ps) o3.n), ((sz2 + 1), liX (q :: qs).length)] sz3 (tk3 + 4) [] (hA2.le (by decide)) D3 E3 (by generalize w = w'; revert w'; exact tw_fa (by kernel_rfl) (by kernel_rfl)) ⟨by decide, by kernel_rfl, rfl⟩ (fun _ => rfl) fun t4 h4 sz4 tk4 hX4 D4 E4 => ?_
  refine gu (c_append sz2 (.str (S (tCDs ++ [c1, c2, c3])) tk4) (stv o3.ps) o3.n hv) [] [(e.1, (⟨(.ref 101), some e.2, .plain, #[]⟩ : Obj)), (e.2, enD w.params e (.int (↑N) tN) .none), (e.3, lst (stv (q :: qs)) n), (e.4, lst [] 0), (sz, esF w.params e.x sz2 tk tk2 (some (o3.a, o3.ch, o3.tc))), (sz2, lst (stv o3.ps) o3.n), ((sz2 + 1), liX (q :: qs).length)] sz4 (tk4 + 1) [5] (hA2.le (by decide)) D4 E4 (by generalize w = w'; revert w'; exact tw_fa (by kernel_rfl) (by kernel_rfl)) ⟨by decide, by kernel_rfl, rfl⟩ (fun _ => rfl) fun r5 h5 sz5 tk5 hX5 D5 E5 => ?_
  have hv2 : (stv o3.ps ++ [Value.str (S (tCDs ++ [c1, c2, c3])) tk4]).length ≤ sizeLine := by rw [List.length_append, stv_len]; show _ + 1 ≤ 2 ^ 24; omega
  refine gu (c_append sz2 (.str (S tAL) (tk5 + 4)) (stv o3.ps ++ [.str (S (tCDs ++ [c1, c2, c3])) tk4]) (o3.n + 1) hv2) [5,1,0,0,0,0,1,0,0,0,1,1,0,2,5,1,0,0,0,0,1,0,0,0,1,1,0,2,4,4,0,4,0,4,0,4,5,6,6,6,6] [(e.1, (⟨(.ref 101), some e.2, .plain, #[]⟩ : Obj)), (e.2, enD w.params e (.int (↑N) tN) .none), (e.3, lst (stv (q :: qs)) n), (e.4, lst [] 0), (sz, esF w.params e.x sz2 tk tk2 (some (o3.a, o3.ch, o3.tc))), (sz2, lst (stv o3.ps ++ [.str (S (tCDs ++ [c1, c2, c3])) tk4]) (o3.n + 1)), ((sz2 + 1), liX (q :: qs).length)] sz5 (tk5 + 5) [5] (hA2.le (by decide)) D5 E5 (by generalize w = w'; revert w'; exact tw_fa (by kernel_rfl) (by kernel_rfl)) ⟨by decide, by kernel_rfl, rfl⟩ (fun _ => rfl) fun r6 h6 sz6 tk6 hX6 D6 E6 => ?_
  have hvs : stv o3.ps ++ [.str (S (tCDs ++ [c1, c2, c3])) tk4] ++ [.str (S tAL) (tk5 + 4)] = stv (o3.ps ++ [(tCDs ++ [c1, c2, c3], tk4)] ++ [(tAL, tk5 + 4)]) := by rw [stv_app, stv_app]; rfl
  have hm : (o3.ps ++ [(tCDs ++ [c1, c2, c3], tk4)] ++ [(tAL, tk5 + 4)]).map (fun p : List Nat × Tok => p.1) = enR ((q :: qs).map fun q => q.1) [tCDs ++ [c1, c2, c3]] := by
    rw [List.map_append, List.map_append, ← q_map (q :: qs) o3.ps [tCDs ++ [c1, c2, c3]] hX3]
    rfl
  have ht : tot ([10] : List Nat).length ((o3.ps ++ [(tCDs ++ [c1, c2, c3], tk4)] ++ [(tAL, tk5 + 4)]).map (fun p : List Nat × Tok => p.1)) ≤ 1000000 := by
    rw [hm]
    refine enR_tot _ _ (fun x hx => ?_) (fun x hx => ?_) (by rw [List.length_map]; exact hl) (by simp)
    · obtain ⟨y, hy, rfl⟩ := List.mem_map.mp hx
      exact (hq y hy).2
    · cases List.mem_singleton.mp hx
      rw [List.length_append]
      show 16 ≤ 20
      decide
  have hJ := congrArg (jn [10]) hm
  refine gu (c_joinV [10] tk6 sz2 (stv o3.ps ++ [.str (S (tCDs ++ [c1, c2, c3])) tk4] ++ [.str (S tAL) (tk5 + 4)]) (o3.ps ++ [(tCDs ++ [c1, c2, c3], tk4)] ++ [(tAL, tk5 + 4)]) (o3.n + 1 + 1) (jn [10] (enR (List.map (fun q => q.fst) (q :: qs)) [tCDs ++ [c1, c2, c3]])) hvs ht hJ) [5] [(e.1, (⟨(.ref 101), some e.2, .plain, #[]⟩ : Obj)), (e.2, enD w.params e (.int (↑N) tN) .none), (e.3, lst (stv (q :: qs)) n), (e.4, lst [] 0), (sz, esF w.params e.x sz2 tk tk2 (some (o3.a, o3.ch, o3.tc))), (sz2, lst (stv o3.ps ++ [.str (S (tCDs ++ [c1, c2, c3])) tk4] ++ [.str (S tAL) (tk5 + 4)]) (o3.n + 1 + 1)), ((sz2 + 1), liX (q :: qs).length)] sz6 (tk6 + 1) [5] (hA2.le (by decide)) D6 E6 (by generalize w = w'; revert w'; exact tw_fa (by kernel_rfl) (by kernel_rfl)) ⟨by decide, by kernel_rfl, rfl⟩ (fun _ => rfl) fun t7 h7 sz7 tk7 hX7 D7 E7 => ?_
  exact gf (t7) [] [0,1,2,3] hA2 D7 E7 (by generalize w = w'; revert w'; exact tw_fa (by kernel_rfl) (by kernel_rfl)) (by decide) rfl (trivial)
end Mine
end
set_option maxHeartbeats 1000000
noncomputable section
namespace Mine
/-- a pair -/
structure PX where
  (p pd : Addr)
  (a1 a2 t3 t4 : Tok)
  dt : FuncData
noncomputable def PX.fs (x : PX) (P : Params) : Facts := [(x.p, ⟨.type "function", some x.pd, .func x.dt, #[]⟩), (x.pd, dic [nt P k_requests x.a1 (.int 3 x.t3), nt P k_seconds x.a2 (.int 4 x.t4)] 2)]
noncomputable def tRRs : List Nat := [82,101,113,117,101,115,116,45,114,97,116,101,58,32]
theorem dig3 : dig 3 = [51] := by decide +kernel
theorem dig4 : dig 4 = [52] := by decide +kernel
theorem dig5 : dig 5 = [53] := by decide +kernel
theorem lt1000_3 : 3 < 1000 := by decide
theorem lt1000_4 : 4 < 1000 := by decide
theorem lt1000_5 : 5 < 1000 := by decide
theorem c_es_rate (w : World) (e : EX) (y : PX) (tN : Tok) (q : List Nat × Tok) (qs : Pcs) (n : Nat) (hq : ∀ q' ∈ q :: qs, 1 ≤ q'.1.length ∧ q'.1.length ≤ 8) (hl : (q :: qs).length ≤ 100) (hl60 : (stv (q :: qs)).length < 2 ^ 60) :
    LCon pw w (G w.params) 16 (esC e.x) (e.fs w.params (.int 5 tN) (.ref y.p) (stv (q :: qs)) n ++ y.fs w.params) (fun o : Tok => ret (.str (S (jn [10] (enR ((q :: qs).map fun q => q.1) [tCDs ++ [53], tRRs ++ [51, 47, 52]]))) o)) (fun o => e.fs w.params (.int 5 tN) (.ref y.p) (stv (q :: qs)) n ++ y.fs w.params) (fun _ => True) := by
  refine lcon_in rfl fun A hA hA1 h sz tk g d os D E0 => ?_
  refine gd (Code.func (bodOf esS) (esE sz)) [0,0,7,7] [(e.1, (⟨(.ref 101), some e.2, .plain, #[]⟩ : Obj)), (e.2, enD w.params e (.int 5 tN) (.ref y.p)), (e.3, lst (stv (q :: qs)) n), (e.4, lst [] 0), (y.1, ({ cls := .type "function", dict := some y.pd, data := Data.func y.dt })), (y.2, dic [nt w.params k_requests y.a1 (.int 3 y.t3), nt w.params k_seconds y.a2 (.int 4 y.t4)] 2), (sz, fra [nt w.params k_self tk (.ref e.1)] 1)] (sz + 1) (tk + 1) hA hA1 D E0 (by kernel_rfl) rfl rfl fun h1 hA2 D1 E1 => ?_
  refine gu (c_len e.ua (stv (q :: qs)) n hl60) [7,1,0,0,0,0,1,0,0,0,1,1,0,2,3,3] [(e.1, (⟨(.ref 101), some e.2, .plain, #[]⟩ : Obj)), (e.2, enD w.params e (.int 5 tN) (.ref y.p)), (e.3, lst (stv (q :: qs)) n), (e.4, lst [] 0), (y.1, ({ cls := .type "function", dict := some y.pd, data := Data.func y.dt })), (y.2, dic [nt w.params k_requests y.a1 (.int 3 y.t3), nt w.params k_seconds y.a2 (.int 4 y.t4)] 2), (sz, fra [nt w.params k_self tk (.ref e.x)] 1)] (sz + 1) (tk + 2) [2] (hA2.le (by decide)) D1 E1 (by kernel_rfl) ⟨by decide, by kernel_rfl, rfl⟩ (fun _ => rfl) fun t2 h2 sz2 tk2 hX2 D2 E2 => ?_
  refine gu (LCon.con (es_loop w sz (sz2 + 1) e.ua sz2 e.x tk tk2 (q :: qs) n (Nat.succ_pos (List.length qs)) hq hl)) [7,7,7,1,0,0,0,0,1,0,0,0,1,1,0,2,3,3,0,3,0,9] [(e.1, (⟨(.ref 101), some e.2, .plain, #[]⟩ : Obj)), (e.2, enD w.params e (.int 5 tN) (.ref y.p)), (e.3, lst (stv (q :: qs)) n), (e.4, lst [] 0), (y.1, ({ cls := .type "function", dict := some y.pd, data := Data.func y.dt })), (y.2, dic [nt w.params k_requests y.a1 (.int 3 y.t3), nt w.params k_seconds y.a2 (.int 4 y.t4)] 2), (sz, fra [nt w.params k_self tk (.ref e.1), nt w.params k_ret tk2 (.ref sz2)] 2), (sz2, lst [] 0), ((sz2 + 1), fld "list_iterator" [(.ref e.3), (.int 0 0)])] (sz2 + 2) (tk2 + 2) [6,8,2,7] (hA2.le (by decide)) D2 E2 (by generalize w = w'; revert w'; exact tw_fa (by kernel_rfl) (by kernel_rfl)) ⟨by decide, by kernel_rfl, rfl⟩ (fun _ => rfl) fun o3 h3 sz3 tk3 hX3 D3 E3 => ?_
  have hlen : o3.ps.length ≤ 100 := by
    have := congrArg List.length hX3
    rw [List.length_map, List.length_map] at this
    omega
  have hv : (stv o3.ps).length ≤ sizeLine := by rw [stv_len]; show _ ≤ 2 ^ 24; omega
  refine gu (c_ifmt 5 [53] dig5 lt1000_5 tN (tk3 + 3)) [7,1,0,0,0,0,1,0,0,0,1,1,0,2,7,8,8,8,8,7,1,0,0,0,0,1,0,0,0,1,1,0,2] [(e.1, (⟨(.ref 101), some e.2, .plain, #[]⟩ : Obj)), (e.2, enD w.params e (.int 5 tN) (.ref y.p)), (e.3, lst (stv (q :: qs)) n), (e.4, lst [] 0), (y.1, ({ cls := .type "function", dict := some y.pd, data := Data.func y.dt })), (y.2, dic [nt w.params k_requests y.a1 (.int 3 y.t3), nt w.params k_seconds y.a2 (.int 4 y.t4)] 2), (sz, esF w.params e.x sz2 tk tk2 (some (o3.a, o3.ch, o3.tc))), (sz2, lst (stv o3.ps) o3.n), ((sz2 + 1), liX (q :: qs).length)] sz3 (tk3 + 4) [] (hA2.le (by decide)) D3 E3 (by generalize w = w'; revert w'; exact tw_fa (by kernel_rfl) (by kernel_rfl)) ⟨by decide, by kernel_rfl, rfl⟩ (fun _ => rfl) fun t4 h4 sz4 tk4 hX4 D4 E4 => ?_
  refine gu (c_append sz2 (.str (S (tCDs ++ [53])) tk4) (stv o3.ps) o3.n hv) [] [(e.1, (⟨(.ref 101), some e.2, .plain, #[]⟩ : Obj)), (e.2, enD w.params e (.int 5 tN) (.ref y.p)), (e.3, lst (stv (q :: qs)) n), (e.4, lst [] 0), (y.1, ({ cls := .type "function", dict := some y.pd, data := Data.func y.dt })), (y.2, dic [nt w.params k_requests y.a1 (.int 3 y.t3), nt w.params k_seconds y.a2 (.int 4 y.t4)] 2), (sz, esF w.params e.x sz2 tk tk2 (some (o3.a, o3.ch, o3.tc))), (sz2, lst (stv o3.ps) o3.n), ((sz2 + 1), liX (q :: qs).length)] sz4 (tk4 + 1) [7] (hA2.le (by decide)) D4 E4 (by generalize w = w'; revert w'; exact tw_fa (by kernel_rfl) (by kernel_rfl)) ⟨by decide, by kernel_rfl, rfl⟩ (fun _ => rfl) fun r5 h5 sz5 tk5 hX5 D5 E5 => ?_
  have hv2 : (stv o3.ps ++ [Value.str (S (tCDs ++ [53])) tk4]).length ≤ sizeLine := by rw [List.length_append, stv_len]; show _ + 1 ≤ 2 ^ 24; omega
  refine gu (c_ifmt 3 [51] dig3 lt1000_3 y.t3 (tk5 + 5)) [7,1,0,0,0,0,1,0,0,0,1,1,0,2,7,1,0,0,0,0,1,0,0,0,1,1,0,2,7,7,7,8,8,8,8,7,5,0,5,0,5,5,5,6] [(e.1, (⟨(.ref 101), some e.2, .plain, #[]⟩ : Obj)), (e.2, enD w.params e (.int 5 tN) (.ref y.p)), (e.3, lst (stv (q :: qs)) n), (e.4, lst [] 0), (y.1, ({ cls := .type "function", dict := some y.pd, data := Data.func y.dt })), (y.2, dic [nt w.params k_requests y.a1 (.int 3 y.t3), nt w.params k_seconds y.a2 (.int 4 y.t4)] 2), (sz, fra [nt w.params k_self tk (.ref e.1), nt w.params k_ret tk2 (.ref sz2), nt w.params k_agent o3.2 (.str (o3.ch) o3.4), nt w.params k_rate (tk5 + 2) (.ref y.1)] 4), (sz2, lst (stv o3.ps ++ [.str (S (tCDs ++ [53])) tk4]) (o3.n + 1)), ((sz2 + 1), liX (q :: qs).length)] sz5 (tk5 + 6) [] (hA2.le (by decide)) D5 E5 (by generalize w = w'; revert w'; exact tw_fa (by kernel_rfl) (by kernel_rfl)) ⟨by decide, by kernel_rfl, rfl⟩ (fun _ => rfl) fun t6 h6 sz6 tk6 hX6 D6 E6 => ?_
  refine gu (c_ifmt 4 [52] dig4 lt1000_4 y.t4 (tk6 + 2)) [7,5,0,5,0,5,5,5,6] [(e.1, (⟨(.ref 101), some e.2, .plain, #[]⟩ : Obj)), (e.2, enD w.params e (.int 5 tN) (.ref y.p)), (e.3, lst (stv (q :: qs)) n), (e.4, lst [] 0), (y.1, ({ cls := .type "function", dict := some y.pd, data := Data.func y.dt })), (y.2, dic [nt w.params k_requests y.a1 (.int 3 y.t3), nt w.params k_seconds y.a2 (.int 4 y.t4)] 2), (sz, fra [nt w.params k_self tk (.ref e.x), nt w.params k_ret tk2 (.ref sz2), nt w.params k_agent o3.a (.str o3.ch o3.tc), nt w.params k_rate (tk5 + 2) (.ref y.p)] 4), (sz2, lst (stv o3.ps ++ [.str (S (tCDs ++ [53])) tk4]) (o3.n + 1)), ((sz2 + 1), liX (q :: qs).length)] sz6 (tk6 + 3) [] (hA2.le (by decide)) D6 E6 (by generalize w = w'; revert w'; exact tw_fa (by kernel_rfl) (by kernel_rfl)) ⟨by decide, by kernel_rfl, rfl⟩ (fun _ => rfl) fun t7 h7 sz7 tk7 hX7 D7 E7 => ?_
  refine gu (c_append sz2 (.str (S (tRRs ++ [51, 47, 52])) tk7) (stv o3.ps ++ [.str (S (tCDs ++ [53])) tk4]) (o3.n + 1) hv2) [] [(e.1, (⟨(.ref 101), some e.2, .plain, #[]⟩ : Obj)), (e.2, enD w.params e (.int 5 tN) (.ref y.p)), (e.3, lst (stv (q :: qs)) n), (e.4, lst [] 0), (y.1, ({ cls := .type "function", dict := some y.pd, data := Data.func y.dt })), (y.2, dic [nt w.params k_requests y.a1 (.int 3 y.t3), nt w.params k_seconds y.a2 (.int 4 y.t4)] 2), (sz, fra [nt w.params k_self tk (.ref e.x), nt w.params k_ret tk2 (.ref sz2), nt w.params k_agent o3.a (.str o3.ch o3.tc), nt w.params k_rate (tk5 + 2) (.ref y.p)] 4), (sz2, lst (stv o3.ps ++ [.str (S (tCDs ++ [53])) tk4]) (o3.n + 1)), ((sz2 + 1), liX (q :: qs).length)] sz7 (tk7 + 1) [7] (hA2.le (by decide)) D7 E7 (by generalize w = w'; revert w'; exact tw_fa (by kernel_rfl) (by kernel_rfl)) ⟨by decide, by kernel_rfl, rfl⟩ (fun _ => rfl) fun r8 h8 sz8 tk8 hX8 D8 E8 => ?_
  have hv3 : (stv o3.ps ++ [Value.str (S (tCDs ++ [53])) tk4] ++ [Value.str (S (tRRs ++ [51, 47, 52])) tk7]).length ≤ sizeLine := by rw [List.length_append, List.length_append, stv_len]; show _ + 1 + 1 ≤ 2 ^ 24; omega
  refine gu (c_append sz2 (.str (S tAL) (tk8 + 3)) (stv o3.ps ++ [.str (S (tCDs ++ [53])) tk4] ++ [.str (S (tRRs ++ [51, 47, 52])) tk7]) (o3.n + 1 + 1) hv3) [7,1,0,0,0,0,1,0,0,0,1,1,0,2,4,4,0,4,0,4,0,4,7,8,8,8,8] [(e.1, (⟨(.ref 101), some e.2, .plain, #[]⟩ : Obj)), (e.2, enD w.params e (.int 5 tN) (.ref y.p)), (e.3, lst (stv (q :: qs)) n), (e.4, lst [] 0), (y.1, ({ cls := .type "function", dict := some y.pd, data := Data.func y.dt })), (y.2, dic [nt w.params k_requests y.a1 (.int 3 y.t3), nt w.params k_seconds y.a2 (.int 4 y.t4)] 2), (sz, fra [nt w.params k_self tk (.ref e.x), nt w.params k_ret tk2 (.ref sz2), nt w.params k_agent o3.a (.str o3.ch o3.tc), nt w.params k_rate (tk5 + 2) (.ref y.p)] 4), (sz2, lst (stv o3.ps ++ [.str (S (tCDs ++ [53])) tk4] ++ [.str (S (tRRs ++ [51, 47, 52])) tk7]) (o3.n + 1 + 1)), ((sz2 + 1), liX (q :: qs).length)] sz8 (tk8 + 4) [7] (hA2.le (by decide)) D8 E8 (by generalize w = w'; revert w'; exact tw_fa (by kernel_rfl) (by kernel_rfl)) ⟨by decide, by kernel_rfl, rfl⟩ (fun _ => rfl) fun r9 h9 sz9 tk9 hX9 D9 E9 => ?_
  have hvs : stv o3.ps ++ [.str (S (tCDs ++ [53])) tk4] ++ [.str (S (tRRs ++ [51, 47, 52])) tk7] ++ [.str (S tAL) (tk8 + 3)] = stv (o3.ps ++ [(tCDs ++ [53], tk4)] ++ [(tRRs ++ [51, 47, 52], tk7)] ++ [(tAL, tk8 + 3)]) := by rw [stv_app, stv_app, stv_app]; rfl
  have hm : (o3.ps ++ [(tCDs ++ [53], tk4)] ++ [(tRRs ++ [51, 47, 52], tk7)] ++ [(tAL, tk8 + 3)]).map (fun p : List Nat × Tok => p.1) = enR ((q :: qs).map fun q => q.1) [tCDs ++ [53], tRRs ++ [51, 47, 52]] := by
    rw [List.map_append, List.map_append, List.map_append, ← q_map (q :: qs) o3.ps [tCDs ++ [53], tRRs ++ [51, 47, 52]] hX3]
    simp
  have ht : tot ([10] : List Nat).length ((o3.ps ++ [(tCDs ++ [53], tk4)] ++ [(tRRs ++ [51, 47, 52], tk7)] ++ [(tAL, tk8 + 3)]).map (fun p : List Nat × Tok => p.1)) ≤ 1000000 := by
    rw [hm]
    refine enR_tot _ _ (fun x hx => ?_) (fun x hx => ?_) (by rw [List.length_map]; exact hl) (by simp)
    · obtain ⟨y, hy, rfl⟩ := List.mem_map.mp hx
      exact (hq y hy).2
    · simp only [List.mem_cons, List.not_mem_nil, or_false] at hx
      rcases hx with rfl | rfl <;> decide
  have hJ := congrArg (jn [10]) hm
  refine gu (c_joinV [10] tk9 sz2 (stv o3.ps ++ [.str (S (tCDs ++ [53])) tk4] ++ [.str (S (tRRs ++ [51, 47, 52])) tk7] ++ [.str (S tAL) (tk8 + 3)]) (o3.ps ++ [(tCDs ++ [53], tk4)] ++ [(tRRs ++ [51, 47, 52], tk7)] ++ [(tAL, tk8 + 3)]) (o3.n + 1 + 1 + 1) (jn [10] (enR (List.map (fun q => q.fst) (q :: qs)) [tCDs ++ [53], tRRs ++ [51, 47, 52]])) hvs ht hJ) [7] [(e.1, (⟨(.ref 101), some e.2, .plain, #[]⟩ : Obj)), (e.2, enD w.params e (.int 5 tN) (.ref y.p)), (e.3, lst (stv (q :: qs)) n), (e.4, lst [] 0), (y.1, ({ cls := .type "function", dict := some y.pd, data := Data.func y.dt })), (y.2, dic [nt w.params k_requests y.a1 (.int 3 y.t3), nt w.params k_seconds y.a2 (.int 4 y.t4)] 2), (sz, fra [nt w.params k_self tk (.ref e.x), nt w.params k_ret tk2 (.ref sz2), nt w.params k_agent o3.a (.str o3.ch o3.tc), nt w.params k_rate (tk5 + 2) (.ref y.p)] 4), (sz2, lst (stv o3.ps ++ [.str (S (tCDs ++ [53])) tk4] ++ [.str (S (tRRs ++ [51, 47, 52])) tk7] ++ [.str (S tAL) (tk8 + 3)]) (o3.n + 1 + 1 + 1)), ((sz2 + 1), liX (q :: qs).length)] sz9 (tk9 + 1) [7] (hA2.le (by decide)) D9 E9 (by generalize w = w'; revert w'; exact tw_fa (by kernel_rfl) (by kernel_rfl)) ⟨by decide, by kernel_rfl, rfl⟩ (fun _ => rfl) fun t10 h10 sz10 tk10 hX10 D10 E10 => ?_
  exact gf (t10) [] [0,1,2,3,4,5] hA2 D10 E10 (by generalize w = w'; revert w'; exact tw_fa (by kernel_rfl) (by kernel_rfl)) (by decide) rfl (trivial)
/-! ## str(entry) -/
noncomputable def snC (x : Addr) : Code := .builtin "str.__new__" ⟨[.type "str", .ref x], []⟩
theorem cs_none (w : World) (e : EX) (dv rv : Value) (vs : List Value) (n : Nat) (T : List Nat) (C : LCon pw w (G w.params) 16 (esC e.x) (e.fs w.params dv rv vs n) (fun o : Tok => ret (.str (S T) o)) (fun o => e.fs w.params dv rv vs n) (fun _ => True)) :
    LCon pw w (G w.params) 18 (snC e.x) (e.fs w.params dv rv vs n) (fun o : Tok => ret (.str (S T) o)) (fun o => e.fs w.params dv rv vs n) (fun _ => True) := by
  intro A hA h sz tk g d os D
  have hA2 : Fit 17 (A.under (snC e.x)) := under_fit hA (by kernel_rfl)
  have E0 := Since.start h (e.fs w.params dv rv vs n)
  refine codeAny_builtin F.entry_str_new ?_
  rw [str_new_tree]
  refine wpAny_bind (wpAny_pure ?_)
  refine wpAny_bind (wpAny_of_eq isSubtype_str_str ?_)
  unfold Builtin.Str.strOf
  refine wpAny_bind ?_
  show wpAny _ _ (cRoomFor "str" [.ref e.x] >>= _) _ _ _
  refine wpAny_bind (wpAny_cRoomFor (by have := hA2.3; show (A.under (snC e.x)).units < 9900; omega) ?_)
  rw [ZFast.ze9201129301070521445, ZFast.ze8364510232829398291]
  show Means pw w (A.under (snC e.x)) _ _ (.top _) _
  refine gu (LCon.con C) [1,0,0,0,0] [(e.1, (⟨(.ref 101), some e.2, .plain, #[]⟩ : Obj)), (e.2, enD w.params e dv rv), (e.3, lst vs n), (e.4, lst [] 0)] sz tk [0,1,2,3] (hA2.le (by decide)) D E0 (by kernel_rfl) ⟨by decide, by kernel_rfl, rfl⟩ (fun _ => rfl) fun t1 h1 sz1 tk1 hX1 D1 E1 => ?_
  refine gp (.str (S T) t1) [] (e.fs w.params dv rv vs n) sz1 tk1 hA2.1 D1 E1 (by kernel_rfl) fun h2 D2 E2 => ?_
  exact wpAny_pure ⟨t1, h2, sz1, tk1, rfl, rfl, D2, E2, trivial⟩
theorem cs_rate (w : World) (e : EX) (y : PX) (dv rv : Value) (vs : List Value) (n : Nat) (T : List Nat) (C : LCon pw w (G w.params) 16 (esC e.x) (e.fs w.params dv rv vs n ++ y.fs w.params) (fun o : Tok => ret (.str (S T) o)) (fun o => e.fs w.params dv rv vs n ++ y.fs w.params) (fun _ => True)) :
    LCon pw w (G w.params) 18 (snC e.x) (e.fs w.params dv rv vs n ++ y.fs w.params) (fun o : Tok => ret (.str (S T) o)) (fun o => e.fs w.params dv rv vs n ++ y.fs w.params) (fun _ => True) := by
  intro A hA h sz tk g d os D
  have hA2 : Fit 17 (A.under (snC e.x)) := under_fit hA (by kernel_rfl)
  have E0 := Since.start h (e.fs w.params dv rv vs n ++ y.fs w.params)
  refine codeAny_builtin F.entry_str_new ?_
  rw [str_new_tree]
  refine wpAny_bind (wpAny_pure ?_)
  refine wpAny_bind (wpAny_of_eq isSubtype_str_str ?_)
  unfold Builtin.Str.strOf
  refine wpAny_bind ?_
  show wpAny _ _ (cRoomFor "str" [.ref e.x] >>= _) _ _ _
  refine wpAny_bind (wpAny_cRoomFor (by have := hA2.3; show (A.under (snC e.x)).units < 9900; omega) ?_)
  rw [ZFast.ze9201129301070521445, ZFast.ze8364510232829398291]
  show Means pw w (A.under (snC e.x)) _ _ (.top _) _
  refine gu (LCon.con C) [1,0,0,0,0] [(e.1, (⟨(.ref 101), some e.2, .plain, #[]⟩ : Obj)), (e.2, enD w.params e dv rv), (e.3, lst vs n), (e.4, lst [] 0), (y.1, ({ cls := .type "function", dict := some y.pd, data := Data.func y.dt })), (y.2, dic [nt w.params k_requests y.a1 (.int 3 y.t3), nt w.params k_seconds y.a2 (.int 4 y.t4)] 2)] sz tk [0,1,2,3,4,5] (hA2.le (by decide)) D E0 (by kernel_rfl) ⟨by decide, by kernel_rfl, rfl⟩ (fun _ => rfl) fun t1 h1 sz1 tk1 hX1 D1 E1 => ?_
  refine gp (.str (S T) t1) [] (e.fs w.params dv rv vs n ++ y.fs w.params) sz1 tk1 hA2.1 D1 E1 (by kernel_rfl) fun h2 D2 E2 => ?_
  exact wpAny_pure ⟨t1, h2, sz1, tk1, rfl, rfl, D2, E2, trivial⟩
/-! ## the end of _law_text -/
theorem cn_none (w : World) (e : EX) (dv rv : Value) (vs : List Value) (n : Nat) (T : List Nat) (C : LCon pw w (G w.params) 16 (esC e.x) (e.fs w.params dv rv vs n) (fun o : Tok => ret (.str (S T) o)) (fun o => e.fs w.params dv rv vs n) (fun _ => True)) :
    LCon pw w (G w.params) 19 (.call (.builtin "str.__new__") ⟨[.type "str", .ref e.x], []⟩) (e.fs w.params dv rv vs n) (fun o : Tok => ret (.str (S T) o)) (fun o => e.fs w.params dv rv vs n) (fun _ => True) := by
  refine lcon_in (by kernel_rfl) fun A hA hA1 h sz tk g d os D E0 => ?_
  exact ga (cs_none w e dv rv vs n T C) [] [0,1,2,3] hA (hA1.le (by decide)) D E0 (by kernel_rfl) (by decide) (by kernel_rfl)
theorem c_str_none (w : World) (e : EX) (dv rv : Value) (vs : List Value) (n : Nat) (T : List Nat) (C : LCon pw w (G w.params) 16 (esC e.x) (e.fs w.params dv rv vs n) (fun o : Tok => ret (.str (S T) o)) (fun o => e.fs w.params dv rv vs n) (fun _ => True)) :
    LCon pw w (G w.params) 21 (.call (.type "str") ⟨[.ref e.x], []⟩) (e.fs w.params dv rv vs n) (fun o : Tok => ret (.str (S T) o)) (fun o => e.fs w.params dv rv vs n) (fun _ => True) := by
  refine lcon_in (by kernel_rfl) fun A hA hA1 h sz tk g d os D E0 => ?_
  refine gt (Code.builtin "type.__call__" { pos := [.type "str", .ref e.x] }) [] [(e.1, (⟨(.ref 101), some e.2, .plain, #[]⟩ : Obj)), (e.2, enD w.params e dv rv), (e.3, lst vs n), (e.4, lst [] 0)] sz tk hA hA1 D E0 (by kernel_rfl) (by kernel_rfl) (by kernel_rfl) fun h1 hA2 D1 E1 => ?_
  refine gu (LCon.con (cn_none w e dv rv vs n T C)) [] [(e.1, (⟨(.ref 101), some e.2, .plain, #[]⟩ : Obj)), (e.2, enD w.params e dv rv), (e.3, lst vs n), (e.4, lst [] 0)] sz tk [0,1,2,3] (hA2.le (by decide)) D1 E1 (by kernel_rfl) ⟨by decide, by kernel_rfl, rfl⟩ (fun _ => rfl) fun t2 h2 sz2 tk2 hX2 D2 E2 => ?_
  exact gf (t2) [0,0] [0,1,2,3] hA2 D2 E2 (by kernel_rfl) (by decide) rfl (trivial)
theorem cn_rate (w : World) (e : EX) (y : PX) (dv rv : Value) (vs : List Value) (n : Nat) (T : List Nat) (C : LCon pw w (G w.params) 16 (esC e.x) (e.fs w.params dv rv vs n ++ y.fs w.params) (fun o : Tok => ret (.str (S T) o)) (fun o => e.fs w.params dv rv vs n ++ y.fs w.params) (fun _ => True)) :
    LCon pw w (G w.params) 19 (.call (.builtin "str.__new__") ⟨[.type "str", .ref e.x], []⟩) (e.fs w.params dv rv vs n ++ y.fs w.params) (fun o : Tok => ret (.str (S T) o)) (fun o => e.fs w.params dv rv vs n ++ y.fs w.params) (fun _ => True) := by
  refine lcon_in (by kernel_rfl) fun A hA hA1 h sz tk g d os D E0 => ?_
  exact ga (cs_rate w e y dv rv vs n T C) [] [0,1,2,3,4,5] hA (hA1.le (by decide)) D E0 (by kernel_rfl) (by decide) (by kernel_rfl)
theorem c_str_rate (w : World) (e : EX) (y : PX) (dv rv : Value) (vs : List Value) (n : Nat) (T : List Nat) (C : LCon pw w (G w.params) 16 (esC e.x) (e.fs w.params dv rv vs n ++ y.fs w.params) (fun o : Tok => ret (.str (S T) o)) (fun o => e.fs w.params dv rv vs n ++ y.fs w.params) (fun _ => True)) :
    LCon pw w (G w.params) 21 (.call (.type "str") ⟨[.ref e.x], []⟩) (e.fs w.params dv rv vs n ++ y.fs w.params) (fun o : Tok => ret (.str (S T) o)) (fun o => e.fs w.params dv rv vs n ++ y.fs w.params) (fun _ => True) := by
  refine lcon_in (by kernel_rfl) fun A hA hA1 h sz tk g d os D E0 => ?_
  refine gt (Code.builtin "type.__call__" { pos := [.type "str", .ref e.x] }) [] [(e.1, (⟨(.ref 101), some e.2, .plain, #[]⟩ : Obj)), (e.2, enD w.params e dv rv), (e.3, lst vs n), (e.4, lst [] 0), (y.1, ({ cls := .type "function", dict := some y.pd, data := Data.func y.dt })), (y.2, dic [nt w.params k_requests y.a1 (.int 3 y.t3), nt w.params k_seconds y.a2 (.int 4 y.t4)] 2)] sz tk hA hA1 D E0 (by kernel_rfl) (by kernel_rfl) (by kernel_rfl) fun h1 hA2 D1 E1 => ?_
  refine gu (LCon.con (cn_rate w e y dv rv vs n T C)) [] [(e.1, (⟨(.ref 101), some e.2, .plain, #[]⟩ : Obj)), (e.2, enD w.params e dv rv), (e.3, lst vs n), (e.4, lst [] 0), (y.1, ({ cls := .type "function", dict := some y.pd, data := Data.func y.dt })), (y.2, dic [nt w.params k_requests y.a1 (.int 3 y.t3), nt w.params k_seconds y.a2 (.int 4 y.t4)] 2)] sz tk [0,1,2,3,4,5] (hA2.le (by decide)) D1 E1 (by kernel_rfl) ⟨by decide, by kernel_rfl, rfl⟩ (fun _ => rfl) fun t2 h2 sz2 tk2 hX2 D2 E2 => ?_
  exact gf (t2) [0,0] [0,1,2,3,4,5] hA2 D2 E2 (by kernel_rfl) (by decide) rfl (trivial)
end Mine
end
set_option maxHeartbeats 1000000
noncomputable section
namespace Mine
/-! ## the loop of _law_text -/
theorem txt_len : ∀ u : Spl, u.length ≤ u.txt.length ∧ u.txt.length ≤ 2 * u.length
  | [] => ⟨Nat.le_refl _, Nat.le_refl _⟩
  | (true, c) :: u => by
    have := txt_len u
    show u.length + 1 ≤ (Spl.txt u).length + 1 + 1 ∧ (Spl.txt u).length + 1 + 1 ≤ 2 * (u.length + 1)
    omega
  | (false, c) :: u => by
    have := txt_len u
    show u.length + 1 ≤ (Spl.txt u).length + 1 ∧ (Spl.txt u).length + 1 ≤ 2 * (u.length + 1)
    omega
theorem spell_len (way : Nat) (u : List Nat) (h : u.length ≤ 3) : 1 ≤ (spell way u).length ∧ (spell way u).length ≤ 8 := by
  unfold spell
  split
  · have := txt_len (sp0 u)
    have e : (sp0 u).length = u.length := List.length_map ..
    rw [List.length_cons, List.length_append, List.length_singleton]
    omega
  · rename_i h0
    have hu : 1 ≤ u.length := by
      cases u with
      | nil => exact absurd (.inr rfl) h0
      | cons c u => exact Nat.succ_pos _
    split
    · have := txt_len (sp1 u)
      have e : (sp1 u).length = u.length := by
        cases u with
        | nil => rfl
        | cons c u => show (List.map _ u).length + 1 = u.length + 1; rw [List.length_map]
      omega
    · have := txt_len (sp2 u)
      have e : (sp2 u).length = u.length := List.length_map ..
      omega
noncomputable def spl (us : List (List Nat)) : List (List Nat) := (List.range' 0 us.length).map fun i => spell (i % 3) (us.getD i [])
theorem spl_len (us : List (List Nat)) : (spl us).length = us.length := by unfold spl; simp
theorem spl_ok (us : List (List Nat)) (h : ∀ u ∈ us, u.length ≤ 3) : ∀ q ∈ spl us, 1 ≤ q.length ∧ q.length ≤ 8 := by
  intro q hq
  obtain ⟨i, hi, rfl⟩ := List.mem_map.mp hq
  refine spell_len _ _ ?_
  have hi' : i < us.length := by
    have := List.mem_range'.mp hi
    omega
  exact h _ (by simp [List.getD, hi'])
structure TXo where
  qs : Pcs
  c : Tok
  u : Str
  t : Tok
  n : Nat
theorem tx_loop (w : World) (e : EX) (y : TX) (ps : Pcs) (an : Nat) (h0 : 0 < ps.length) (hp : ∀ p ∈ ps, (∀ c ∈ p.1, c < 128) ∧ p.1.length ≤ 3) (hl : ps.length ≤ 100) :
    LCon pw w (G w.params) 20 (txL y.L y.it) (txFs w.params e y (liO y.a 0) (stv ps) an none [] 0) (fun _ : TXo => .ok .next) (fun r => txFs w.params e y (liX ps.length) (stv ps) an (some (r.c, r.u, r.t)) (stv r.qs) r.n) (fun r => r.qs.map (·.1) = spl (ps.map (·.1))) := by
  have hg : ∀ i, ((ps.map (·.1)).getD i []) = (ps.getD i ([], 0)).1 := by
    intro i
    simp only [List.getD, List.getElem?_map]
    cases ps[i]? <;> rfl
  have W := walk2 (lev := 20) (code := txL y.L y.it) (prog := pw) (w := w) (G := G w.params) (σ := Option (Tok × Str × Tok) × Nat)
    (fun i s vs => txFs w.params e y (liO y.a i) (stv ps) an s.1 vs s.2) (fun s vs => txFs w.params e y (liX ps.length) (stv ps) an s.1 vs s.2) (fun i s vs => vs.length = i ∧ (0 < i → ∃ x, s.1 = some x))
    (fun i us => ∃ t, us = [.str (S (spell (i % 3) ((ps.map (·.1)).getD i []))) t]) ps.length
    (fun i s vs β fs2 X hI hi IH => by
      have hm := hp (ps.getD i ([], 0)) (by simp [List.getD, hi])
      refine tx_step w e y (stv ps) an i _ _ (stv_get ps i hi) hm.1 (by omega) s.1 vs s.2 hI.1 (by omega) (by rw [hI.1]; show _ ≤ 2 ^ 24; omega) β fs2 X fun c t' n => ?_
      rw [← hg]
      refine IH (some (c, _, _), n) _ ⟨by rw [List.length_append, hI.1]; rfl, fun _ => ⟨_, rfl⟩⟩ ⟨t', rfl⟩)
    (fun s vs hI => (tx_stop w e y (stv ps) an ps.length (stv_end ps) s.1 vs s.2).map (fun _ => s) fun _ _ => ⟨rfl, rfl, hI⟩)
    ps.length 0 (none, 0) [] (Nat.zero_add _) ⟨rfl, fun h => absurd h (Nat.lt_irrefl 0)⟩
  refine W.ex fun r hr => ?_
  obtain ⟨qs, e1, hq⟩ := Gl.strs (fun i => spell (i % 3) ((ps.map (·.1)).getD i [])) (fun i us h => h) hr.1
  obtain ⟨⟨c, u, t⟩, ex⟩ := hr.2.2 h0
  refine ⟨⟨qs, c, u, t, r.1.2⟩, rfl, ?_, by rw [hq, spl, List.length_map]⟩
  show txFs _ _ _ _ _ _ r.1.1 ([] ++ r.2) _ = _
  rw [e1, ex]
  rfl
/-! ## _law_text whole -/
theorem c_tx_nil_n (w : World) (a : Addr) (n : Nat) :
    LCon pw w (G w.params) 24 (txC a .none .none) [(a, lst [] n)] (fun o : Tok => ret (.str (S []) o)) (fun o => [(a, lst [] n)]) (fun _ => True) := by
  refine lcon_in rfl fun A hA hA1 h sz tk g d os D E0 => ?_
  refine gd (Code.func (bodOf txS) (txE sz)) [0,0,2,2,2,2,2,2] [(a, lst [] n), (sz, fra [nt w.params k_agents tk (.ref a), nt w.params k_delay (tk + 1) .none, nt w.params k_rate (tk + 2) .none] 3)] (sz + 1) (tk + 3) hA hA1 D E0 (by kernel_rfl) rfl rfl fun h1 hA2 D1 E1 => ?_
  refine gu (LCon.con (c_en w)) [0,0,0] [(a, lst [] n), (sz, fra [nt w.params k_agents tk (.ref a), nt w.params k_delay (tk + 1) .none, nt w.params k_rate (tk + 2) .none] 3)] (sz + 1) (tk + 3) [] (hA2.le (by decide)) D1 E1 (by kernel_rfl) ⟨by decide, by kernel_rfl, rfl⟩ (fun _ => rfl) fun e h2 sz2 tk2 hX2 D2 E2 => ?_
  refine gu (LCon.con (tx_stop w e { L := sz, a := a, it := sz2, b1 := tk, b2 := tk + 1, b3 := tk + 2, b4 := tk2, dv := .none, rv := .none } [] n 0 rfl none [] 0)) [2,2,2,1,1,0,1,0,7] [(a, lst [] n), (sz, fra [nt w.params k_agents tk (.ref a), nt w.params k_delay (tk + 1) .none, nt w.params k_rate (tk + 2) .none, nt w.params k_entry tk2 (.ref e.1)] 4), (e.1, (⟨(.ref 101), some e.2, .plain, #[]⟩ : Obj)), (e.2, enD w.params e .none .none), (e.3, lst [] 0), (e.4, lst [] 0), (sz2, fld "list_iterator" [(.ref a), (.int 0 0)])] (sz2 + 1) (tk2 + 1) [1,6,0,2,3,4,5] (hA2.le (by decide)) D2 E2 (by generalize w = w'; revert w'; exact tw_fa (by kernel_rfl) (by kernel_rfl)) ⟨by decide, by kernel_rfl, rfl⟩ (fun _ => rfl) fun r3 h3 sz3 tk3 hX3 D3 E3 => ?_
  refine gu (LCon.con (c_str_none w e .none .none [] 0 [] (c_es_nil w e .none .none 0))) [2,2,3,0,0,0,0,3,0,0,3,0,3,0,0,0,3,0,4,4,4,2,0,0,2] [(a, lst [] n), (sz, txF w.params e { L := sz, a := a, it := sz2, b1 := tk, b2 := tk + 1, b3 := tk + 2, b4 := tk2, dv := .none, rv := .none } none), (e.1, (⟨(.ref 101), some e.2, .plain, #[]⟩ : Obj)), (e.2, dic [nt w.params k_useragents e.5 (.ref e.3), nt w.params k_rulelines e.6 (.ref e.4), nt w.params k_delay e.7 .none, nt w.params k_req_rate e.8 .none] 4), (e.3, lst [] 0), (e.4, lst [] 0), (sz2, liX 0)] sz3 (tk3 + 2) [2,3,4,5] (hA2.le (by decide)) D3 E3 (by generalize w = w'; revert w'; exact tw_fa (by kernel_rfl) (by kernel_rfl)) ⟨by decide, by kernel_rfl, rfl⟩ (fun _ => rfl) fun t4 h4 sz4 tk4 hX4 D4 E4 => ?_
  exact gf (t4) [] [0] hA2 D4 E4 (by generalize w = w'; revert w'; exact tw_fa (by kernel_rfl) (by kernel_rfl)) (by decide) rfl (trivial)
theorem c_tx_cons_n (w : World) (a : Addr) (p : List Nat × Tok) (ps : Pcs) (n : Nat) (T : List Nat) (hp : ∀ q ∈ p :: ps, (∀ c ∈ q.1, c < 128) ∧ q.1.length ≤ 3) (hl : (p :: ps).length ≤ 100)
    (C : ∀ (e : EX) (qs : Pcs) (m : Nat), qs.map (·.1) = spl ((p :: ps).map (·.1)) → LCon pw w (G w.params) 16 (esC e.x) (e.fs w.params .none .none (stv qs) m) (fun o : Tok => ret (.str (S T) o)) (fun o => e.fs w.params .none .none (stv qs) m) (fun _ => True)) :
    LCon pw w (G w.params) 24 (txC a .none .none) [(a, lst (stv (p :: ps)) n)] (fun o : Tok => ret (.str (S T) o)) (fun o => [(a, lst (stv (p :: ps)) n)]) (fun _ => True) := by
  refine lcon_in rfl fun A hA hA1 h sz tk g d os D E0 => ?_
  refine gd (Code.func (bodOf txS) (txE sz)) [0,0,2,2,2,2,2,2] [(a, lst (stv (p :: ps)) n), (sz, fra [nt w.params k_agents tk (.ref a), nt w.params k_delay (tk + 1) .none, nt w.params k_rate (tk + 2) .none] 3)] (sz + 1) (tk + 3) hA hA1 D E0 (by kernel_rfl) rfl rfl fun h1 hA2 D1 E1 => ?_
  refine gu (LCon.con (c_en w)) [0,0,0] [(a, lst (stv (p :: ps)) n), (sz, fra [nt w.params k_agents tk (.ref a), nt w.params k_delay (tk + 1) .none, nt w.params k_rate (tk + 2) .none] 3)] (sz + 1) (tk + 3) [] (hA2.le (by decide)) D1 E1 (by kernel_rfl) ⟨by decide, by kernel_rfl, rfl⟩ (fun _ => rfl) fun e h2 sz2 tk2 hX2 D2 E2 => ?_
  refine gu (LCon.con (tx_loop w e { L := sz, a := a, it := sz2, b1 := tk, b2 := tk + 1, b3 := tk + 2, b4 := tk2, dv := .none, rv := .none } (p :: ps) n (Nat.succ_pos (List.length ps)) hp hl)) [2,2,2,1,1,0,1,0,7] [(a, lst (stv (p :: ps)) n), (sz, fra [nt w.params k_agents tk (.ref a), nt w.params k_delay (tk + 1) .none, nt w.params k_rate (tk + 2) .none, nt w.params k_entry tk2 (.ref e.1)] 4), (e.1, (⟨(.ref 101), some e.2, .plain, #[]⟩ : Obj)), (e.2, enD w.params e .none .none), (e.3, lst [] 0), (e.4, lst [] 0), (sz2, fld "list_iterator" [(.ref a), (.int 0 0)])] (sz2 + 1) (tk2 + 1) [1,6,0,2,3,4,5] (hA2.le (by decide)) D2 E2 (by generalize w = w'; revert w'; exact tw_fa (by kernel_rfl) (by kernel_rfl)) ⟨by decide, by kernel_rfl, rfl⟩ (fun _ => rfl) fun o3 h3 sz3 tk3 hX3 D3 E3 => ?_
  refine gu (LCon.con (c_str_none w e .none .none (stv o3.qs) o3.n T (C e o3.qs o3.n hX3))) [2,2,3,0,0,0,0,3,0,0,3,0,3,0,0,0,3,0,4,4,4,2,0,0,2] [(a, lst (stv (p :: ps)) n), (sz, txF w.params e { L := sz, a := a, it := sz2, b1 := tk, b2 := tk + 1, b3 := tk + 2, b4 := tk2, dv := .none, rv := .none } (some (o3.c, o3.u, o3.t))), (e.1, (⟨(.ref 101), some e.2, .plain, #[]⟩ : Obj)), (e.2, dic [nt w.params k_useragents e.5 (.ref e.3), nt w.params k_rulelines e.6 (.ref e.4), nt w.params k_delay e.7 .none, nt w.params k_req_rate e.8 .none] 4), (e.3, lst (stv o3.qs) o3.n), (e.4, lst [] 0), (sz2, liX (p :: ps).length)] sz3 (tk3 + 2) [2,3,4,5] (hA2.le (by decide)) D3 E3 (by generalize w = w'; revert w'; exact tw_fa (by kernel_rfl) (by kernel_rfl)) ⟨by decide, by kernel_rfl, rfl⟩ (fun _ => rfl) fun t4 h4 sz4 tk4 hX4 D4 E4 => ?_
  exact gf (t4) [] [0] hA2 D4 E4 (by generalize w = w'; revert w'; exact tw_fa (by kernel_rfl) (by kernel_rfl)) (by decide) rfl (trivial)
theorem c_tx_nil_i (w : World) (a : Addr) (n : Nat) (N : Nat) (tN : Tok) :
    LCon pw w (G w.params) 24 (txC a (.int N tN) .none) [(a, lst [] n)] (fun o : Tok => ret (.str (S []) o)) (fun o => [(a, lst [] n)]) (fun _ => True) := by
  refine lcon_in rfl fun A hA hA1 h sz tk g d os D E0 => ?_
  refine gd (Code.func (bodOf txS) (txE sz)) [0,0,2,2,2,2,2,2] [(a, lst [] n), (sz, fra [nt w.params k_agents tk (.ref a), nt w.params k_delay (tk + 1) (.int (Int.ofNat N) tN), nt w.params k_rate (tk + 2) .none] 3)] (sz + 1) (tk + 3) hA hA1 D E0 (by kernel_rfl) rfl rfl fun h1 hA2 D1 E1 => ?_
  refine gu (LCon.con (c_en w)) [0,0,0] [(a, lst [] n), (sz, fra [nt w.params k_agents tk (.ref a), nt w.params k_delay (tk + 1) (.int (Int.ofNat N) tN), nt w.params k_rate (tk + 2) .none] 3)] (sz + 1) (tk + 3) [] (hA2.le (by decide)) D1 E1 (by kernel_rfl) ⟨by decide, by kernel_rfl, rfl⟩ (fun _ => rfl) fun e h2 sz2 tk2 hX2 D2 E2 => ?_
  refine gu (LCon.con (tx_stop w e { L := sz, a := a, it := sz2, b1 := tk, b2 := tk + 1, b3 := tk + 2, b4 := tk2, dv := .int (↑N) tN, rv := .none } [] n 0 rfl none [] 0)) [2,2,2,1,1,0,1,0,7] [(a, lst [] n), (sz, fra [nt w.params k_agents tk (.ref a), nt w.params k_delay (tk + 1) (.int (Int.ofNat N) tN), nt w.params k_rate (tk + 2) .none, nt w.params k_entry tk2 (.ref e.1)] 4), (e.1, (⟨(.ref 101), some e.2, .plain, #[]⟩ : Obj)), (e.2, enD w.params e .none .none), (e.3, lst [] 0), (e.4, lst [] 0), (sz2, fld "list_iterator" [(.ref a), (.int 0 0)])] (sz2 + 1) (tk2 + 1) [1,6,0,2,3,4,5] (hA2.le (by decide)) D2 E2 (by generalize w = w'; revert w'; exact tw_fa (by kernel_rfl) (by kernel_rfl)) ⟨by decide, by kernel_rfl, rfl⟩ (fun _ => rfl) fun r3 h3 sz3 tk3 hX3 D3 E3 => ?_
  refine gu (LCon.con (c_str_none w e (.int (↑N) tN) .none [] 0 [] (c_es_nil w e (.int (↑N) tN) .none 0))) [2,2,3,0,0,0,0,3,0,0,3,0,3,0,0,0,3,0,4,4,4,2,0,0,2] [(a, lst [] n), (sz, txF w.params e { L := sz, a := a, it := sz2, b1 := tk, b2 := tk + 1, b3 := tk + 2, b4 := tk2, dv := .int (↑N) tN, rv := .none } none), (e.1, (⟨(.ref 101), some e.2, .plain, #[]⟩ : Obj)), (e.2, dic [nt w.params k_useragents e.5 (.ref e.3), nt w.params k_rulelines e.6 (.ref e.4), nt w.params k_delay e.7 (.int (Int.ofNat N) tN), nt w.params k_req_rate e.8 .none] 4), (e.3, lst [] 0), (e.4, lst [] 0), (sz2, liX 0)] sz3 (tk3 + 2) [2,3,4,5] (hA2.le (by decide)) D3 E3 (by generalize w = w'; revert w'; exact tw_fa (by kernel_rfl) (by kernel_rfl)) ⟨by decide, by kernel_rfl, rfl⟩ (fun _ => rfl) fun t4 h4 sz4 tk4 hX4 D4 E4 => ?_
  exact gf (t4) [] [0] hA2 D4 E4 (by generalize w = w'; revert w'; exact tw_fa (by kernel_rfl) (by kernel_rfl)) (by decide) rfl (trivial)
theorem c_tx_cons_i (w : World) (a : Addr) (p : List Nat × Tok) (ps : Pcs) (n : Nat) (N : Nat) (tN : Tok) (T : List Nat) (hp : ∀ q ∈ p :: ps, (∀ c ∈ q.1, c < 128) ∧ q.1.length ≤ 3) (hl : (p :: ps).length ≤ 100)
    (C : ∀ (e : EX) (qs : Pcs) (m : Nat), qs.map (·.1) = spl ((p :: ps).map (·.1)) → LCon pw w (G w.params) 16 (esC e.x) (e.fs w.params (.int N tN) .none (stv qs) m) (fun o : Tok => ret (.str (S T) o)) (fun o => e.fs w.params (.int N tN) .none (stv qs) m) (fun _ => True)) :
    LCon pw w (G w.params) 24 (txC a (.int N tN) .none) [(a, lst (stv (p :: ps)) n)] (fun o : Tok => ret (.str (S T) o)) (fun o => [(a, lst (stv (p :: ps)) n)]) (fun _ => True) := by
  refine lcon_in rfl fun A hA hA1 h sz tk g d os D E0 => ?_
  refine gd (Code.func (bodOf txS) (txE sz)) [0,0,2,2,2,2,2,2] [(a, lst (stv (p :: ps)) n), (sz, fra [nt w.params k_agents tk (.ref a), nt w.params k_delay (tk + 1) (.int (Int.ofNat N) tN), nt w.params k_rate (tk + 2) .none] 3)] (sz + 1) (tk + 3) hA hA1 D E0 (by kernel_rfl) rfl rfl fun h1 hA2 D1 E1 => ?_
  refine gu (LCon.con (c_en w)) [0,0,0] [(a, lst (stv (p :: ps)) n), (sz, fra [nt w.params k_agents tk (.ref a), nt w.params k_delay (tk + 1) (.int (Int.ofNat N) tN), nt w.params k_rate (tk + 2) .none] 3)] (sz + 1) (tk + 3) [] (hA2.le (by decide)) D1 E1 (by kernel_rfl) ⟨by decide, by kernel_rfl, rfl⟩ (fun _ => rfl) fun e h2 sz2 tk2 hX2 D2 E2 => ?_
  refine gu (LCon.con (tx_loop w e { L := sz, a := a, it := sz2, b1 := tk, b2 := tk + 1, b3 := tk + 2, b4 := tk2, dv := .int (↑N) tN, rv := .none } (p :: ps) n (Nat.succ_pos (List.length ps)) hp hl)) [2,2,2,1,1,0,1,0,7] [(a, lst (stv (p :: ps)) n), (sz, fra [nt w.params k_agents tk (.ref a), nt w.params k_delay (tk + 1) (.int (Int.ofNat N) tN), nt w.params k_rate (tk + 2) .none, nt w.params k_entry tk2 (.ref e.1)] 4), (e.1, (⟨(.ref 101), some e.2, .plain, #[]⟩ : Obj)), (e.2, enD w.params e .none .none), (e.3, lst [] 0), (e.4, lst [] 0), (sz2, fld "list_iterator" [(.ref a), (.int 0 0)])] (sz2 + 1) (tk2 + 1) [1,6,0,2,3,4,5] (hA2.le (by decide)) D2 E2 (by generalize w = w'; revert w'; exact tw_fa (by kernel_rfl) (by kernel_rfl)) ⟨by decide, by kernel_rfl, rfl⟩ (fun _ => rfl) fun o3 h3 sz3 tk3 hX3 D3 E3 => ?_
  refine gu (LCon.con (c_str_none w e (.int (↑N) tN) .none (stv o3.qs) o3.n T (C e o3.qs o3.n hX3))) [2,2,3,0,0,0,0,3,0,0,3,0,3,0,0,0,3,0,4,4,4,2,0,0,2] [(a, lst (stv (p :: ps)) n), (sz, txF w.params e { L := sz, a := a, it := sz2, b1 := tk, b2 := tk + 1, b3 := tk + 2, b4 := tk2, dv := .int (↑N) tN, rv := .none } (some (o3.c, o3.u, o3.t))), (e.1, (⟨(.ref 101), some e.2, .plain, #[]⟩ : Obj)), (e.2, dic [nt w.params k_useragents e.5 (.ref e.3), nt w.params k_rulelines e.6 (.ref e.4), nt w.params k_delay e.7 (.int (Int.ofNat N) tN), nt w.params k_req_rate e.8 .none] 4), (e.3, lst (stv o3.qs) o3.n), (e.4, lst [] 0), (sz2, liX (p :: ps).length)] sz3 (tk3 + 2) [2,3,4,5] (hA2.le (by decide)) D3 E3 (by generalize w = w'; revert w'; exact tw_fa (by kernel_rfl) (by kernel_rfl)) ⟨by decide, by kernel_rfl, rfl⟩ (fun _ => rfl) fun t4 h4 sz4 tk4 hX4 D4 E4 => ?_
  exact gf (t4) [] [0] hA2 D4 E4 (by generalize w = w'; revert w'; exact tw_fa (by kernel_rfl) (by kernel_rfl)) (by decide) rfl (trivial)
end Mine
end
set_option maxHeartbeats 1000000
noncomputable section
namespace Mine
/-! ## _law_text with a rate -/
noncomputable def txM : Str := S [95,108,97,119,95,116,101,120,116,46,60,108,111,99,97,108,115,62,46,60,108,97,109,98,100,97,62]
noncomputable def lmX2 : Expr := asV ((ifT ((bodOf txS).getD 3 nop)).getD 0 nop)
noncomputable def pxOf (s k : Nat) (t3 t4 : Tok) : PX := ⟨s + 6, s + 7, k + 10, k + 13, t3, t4, lmD txM lmX2 (s + 5)⟩
noncomputable def txK (P : Params) (a tp : Addr) (t3 t4 tN : Tok) (e : EX) (s k : Nat) (avs : List Value) (an : Nat) (qvs : List Value) (qn : Nat) : Facts :=
  [(a, lst avs an), (tp, tup [.int 3 t3, .int 4 t4]), (117, tbO [.int 104 0, .int 15 0, .ref (s + 5)])] ++ (e.fs P (.int 5 tN) (.ref (s + 6)) qvs qn ++ (pxOf s k t3 t4).fs P)
theorem c_tx_rate (w : World) (a tp : Addr) (t3 t4 tN : Tok) (p : List Nat × Tok) (ps : Pcs) (n : Nat) (T : List Nat) (hp : ∀ q ∈ p :: ps, (∀ c ∈ q.1, c < 128) ∧ q.1.length ≤ 3) (hl : (p :: ps).length ≤ 100)
    (C : ∀ (e : EX) (y : PX) (qs : Pcs) (m : Nat), qs.map (·.1) = spl ((p :: ps).map (·.1)) → LCon pw w (G w.params) 16 (esC e.x) (e.fs w.params (.int 5 tN) (.ref y.p) (stv qs) m ++ y.fs w.params) (fun o : Tok => ret (.str (S T) o)) (fun o => e.fs w.params (.int 5 tN) (.ref y.p) (stv qs) m ++ y.fs w.params) (fun _ => True)) :
    LCon pw w (G w.params) 24 (txC a (.int 5 tN) (.ref tp)) [(a, lst (stv (p :: ps)) n), (tp, tup [.int 3 t3, .int 4 t4]), (117, tbO [])] (fun o : Tok × List Value => ret (.str (S T) o.1)) (fun o => [(a, lst (stv (p :: ps)) n), (tp, tup [.int 3 t3, .int 4 t4]), (117, tbO o.2)]) (fun _ => True) := by
  refine lcon_in rfl fun A hA hA1 h sz tk g d os D E0 => ?_
  refine gd (Code.func (bodOf txS) (txE sz)) [0,0,4,4,4,4,4,4] [(a, lst (stv (p :: ps)) n), (tp, tup [.int 3 t3, .int 4 t4]), (117, tbO []), (sz, fra [nt w.params k_agents tk (.ref a), nt w.params k_delay (tk + 1) (.int 5 tN), nt w.params k_rate (tk + 2) (.ref tp)] 3)] (sz + 1) (tk + 3) hA hA1 D E0 (by kernel_rfl) rfl rfl fun h1 hA2 D1 E1 => ?_
  refine gu (LCon.con (c_en w)) [0,0,0] [(a, lst (stv (p :: ps)) n), (tp, tup [.int 3 t3, .int 4 t4]), (117, tbO []), (sz, fra [nt w.params k_agents tk (.ref a), nt w.params k_delay (tk + 1) (.int 5 tN), nt w.params k_rate (tk + 2) (.ref tp)] 3)] (sz + 1) (tk + 3) [] (hA2.le (by decide)) D1 E1 (by kernel_rfl) ⟨by decide, by kernel_rfl, rfl⟩ (fun _ => rfl) fun e h2 sz2 tk2 hX2 D2 E2 => ?_
  refine gu (LCon.con (tx_loop w e { L := sz, a := a, it := sz2, b1 := tk, b2 := tk + 1, b3 := tk + 2, b4 := tk2, dv := .int 5 tN, rv := .ref tp } (p :: ps) n (Nat.succ_pos (List.length ps)) hp hl)) [4,4,4,1,1,0,1,0,9] [(a, lst (stv (p :: ps)) n), (tp, tup [.int 3 t3, .int 4 t4]), (117, tbO []), (sz, fra [nt w.params k_agents tk (.ref a), nt w.params k_delay (tk + 1) (.int 5 tN), nt w.params k_rate (tk + 2) (.ref tp), nt w.params k_entry tk2 (.ref e.1)] 4), (e.1, (⟨(.ref 101), some e.2, .plain, #[]⟩ : Obj)), (e.2, enD w.params e .none .none), (e.3, lst [] 0), (e.4, lst [] 0), (sz2, fld "list_iterator" [(.ref a), (.int 0 0)])] (sz2 + 1) (tk2 + 1) [3,8,0,4,5,6,7] (hA2.le (by decide)) D2 E2 (by generalize w = w'; revert w'; exact tw_fa (by kernel_rfl) (by kernel_rfl)) ⟨by decide, by kernel_rfl, rfl⟩ (fun _ => rfl) fun o3 h3 sz3 tk3 hX3 D3 E3 => ?_
  refine gus (LCon.con (c_str_rate w e (pxOf sz3 tk3 t3 t4) (.int 5 tN) (.ref (sz3 + 6)) (stv o3.qs) o3.n T (C e (pxOf sz3 tk3 t3 t4) o3.qs o3.n hX3))) [4,4,5,0,0,0,0,5,0,0,5,0,5,0,0,0,5,0,6,6,6,4,0,3,3,3,3,0,0,0,4,4,4,2,2,2,0,2,0,2,4,16,0,16,0,16,16,16,16,17,17,17,4,2,2,2,0,2,0,2,4,16,0,16,0,16,16,16,17,17,17,4,4,5,0,0,0,0,5,0,0,5,0,5,0,0,0,5,0,6,6,6,0,0,4] (txK w.params a tp t3 t4 tN e sz3 tk3 (stv (p :: ps)) n (stv o3.qs) o3.n) [0,1,2,4,5,6,7,15,16] (sz3 + 8) (tk3 + 16) [3,4,5,6,7,8] (hA2.le (by decide)) D3 E3 (by generalize w = w'; revert w'; exact tw_fa (by kernel_rfl) (by kernel_rfl)) (by decide) ⟨by decide, by kernel_rfl, rfl⟩ (fun _ => rfl) fun t4' h4 sz4 tk4 hX4 D4 E4 => ?_
  exact gf ((t4', [.int 104 0, .int 15 0, .ref (sz3 + 5)])) [] [0,1,2] hA2 D4 E4 (by generalize w = w'; revert w'; exact tw_fa (by kernel_rfl) (by kernel_rfl)) (by decide) rfl (trivial)
end Mine
end
set_option maxHeartbeats 1000000
noncomputable section
namespace Mine
/-! ## _law_text in one -/
noncomputable def midT (dl : Option Nat) : List (List Nat) := match dl with
  | none => []
  | some N => [tCDs ++ dig N]
noncomputable def recT (us : List (List Nat)) (mid : List (List Nat)) : List Nat := match us with
  | [] => []
  | us => jn [10] (enR (spl us) mid)
noncomputable def dvOf (dl : Option (Nat × Tok)) : Value := match dl with
  | none => .none
  | some (N, t) => .int N t
theorem spl_cons (q : List Nat) (us : List (List Nat)) {qs : Pcs} (h : qs.map (·.1) = spl (q :: us)) : ∃ p ps, qs = p :: ps := by
  cases qs with
  | nil =>
    have := congrArg List.length h
    rw [spl_len] at this
    cases this
  | cons p ps => exact ⟨p, ps, rfl⟩
theorem spl_pcs (us : List (List Nat)) (hu : ∀ u ∈ us, u.length ≤ 3) {qs : Pcs} (h : qs.map (·.1) = spl us) : ∀ q ∈ qs, 1 ≤ q.1.length ∧ q.1.length ≤ 8 := fun q hq =>
  spl_ok us hu q.1 (h ▸ List.mem_map_of_mem hq)
theorem spl_pl (us : List (List Nat)) {qs : Pcs} (h : qs.map (·.1) = spl us) : qs.length = us.length := by
  have := congrArg List.length h
  rwa [List.length_map, spl_len] at this
theorem c_es (w : World) (us : List (List Nat)) (u0 : List Nat) (hu : ∀ u ∈ u0 :: us, u.length ≤ 3) (hl : (u0 :: us).length ≤ 100) (dl : Option (Nat × Tok)) (hd : ∀ N t, dl = some (N, t) → N < 1000) (e : EX) (qs : Pcs) (m : Nat) (hq : qs.map (·.1) = spl (u0 :: us)) :
    LCon pw w (G w.params) 16 (esC e.x) (e.fs w.params (dvOf dl) .none (stv qs) m) (fun o : Tok => ret (.str (S (recT (u0 :: us) (midT (dl.map (·.1))))) o)) (fun o => e.fs w.params (dvOf dl) .none (stv qs) m) (fun _ => True) := by
  have h1 := spl_pcs _ hu hq
  have h2 := spl_pl _ hq
  obtain ⟨p, ps, rfl⟩ := spl_cons _ _ hq
  have h60 : (stv (p :: ps)).length < 2 ^ 60 := by rw [stv_len, h2]; omega
  have h100 : (p :: ps).length ≤ 100 := by rw [h2]; exact hl
  show LCon pw w (G w.params) 16 (esC e.x) (e.fs w.params (dvOf dl) .none (stv (p :: ps)) m) (fun o : Tok => ret (.str (S (jn [10] (enR (spl (u0 :: us)) (midT (dl.map (·.1)))))) o)) (fun o => e.fs w.params (dvOf dl) .none (stv (p :: ps)) m) (fun _ => True)
  rw [← hq]
  match dl, hd with
  | none, _ => exact c_es_none w e p ps m h1 h100 h60
  | some (N, t), hd =>
    have hN := hd N t rfl
    have h3 := dig_len N hN
    have h0 := dig_ne N
    show LCon pw w (G w.params) 16 (esC e.x) (e.fs w.params (.int N t) .none (stv (p :: ps)) m) (fun o : Tok => ret (.str (S (jn [10] (enR ((p :: ps).map (·.1)) [tCDs ++ dig N]))) o)) (fun o => e.fs w.params (.int N t) .none (stv (p :: ps)) m) (fun _ => True)
    generalize hdg : dig N = l at h3 h0
    match l, h0, h3 with
    | [c1], _, _ => exact c_es_int1 w e N c1 hdg hN t p ps m h1 h100 h60
    | [c1, c2], _, _ => exact c_es_int2 w e N c1 c2 hdg hN t p ps m h1 h100 h60
    | [c1, c2, c3], _, _ => exact c_es_int3 w e N c1 c2 c3 hdg hN t p ps m h1 h100 h60
noncomputable def okP (p : List Nat × Tok) : Prop := (∀ c ∈ p.1, c < 128) ∧ p.1.length ≤ 3
theorem okP_map {ps : Pcs} (hp : ∀ q ∈ ps, okP q) : ∀ u ∈ ps.map (·.1), u.length ≤ 3 := fun u hu => by
  obtain ⟨q, hq, rfl⟩ := List.mem_map.mp hu
  exact (hp q hq).2
theorem c_tx (w : World) (a : Addr) (ps : Pcs) (n : Nat) (dl : Option (Nat × Tok)) (hd : ∀ N t, dl = some (N, t) → N < 1000) (hp : ∀ q ∈ ps, okP q) (hl : ps.length ≤ 100) :
    LCon pw w (G w.params) 24 (txC a (dvOf dl) .none) [(a, lst (stv ps) n)] (fun o : Tok => ret (.str (S (recT (ps.map (·.1)) (midT (dl.map (·.1))))) o)) (fun o => [(a, lst (stv ps) n)]) (fun _ => True) := by
  cases ps with
  | nil =>
    match dl, hd with
    | none, _ => exact c_tx_nil_n w a n
    | some (N, t), _ => exact c_tx_nil_i w a n N t
  | cons p ps =>
    have hu := okP_map hp
    have C := c_es w (ps.map fun q : List Nat × Tok => q.1) p.1 hu (by show (ps.map fun q : List Nat × Tok => q.1).length + 1 ≤ 100; rw [List.length_map]; exact hl) dl hd
    match dl, hd, C with
    | none, _, C => exact c_tx_cons_n w a p ps n _ hp hl C
    | some (N, t), _, C => exact c_tx_cons_i w a p ps n N t _ hp hl C
theorem c_tx0 (w : World) (a tp : Addr) (t3 t4 tN : Tok) (p : List Nat × Tok) (ps : Pcs) (n : Nat) (hp : ∀ q ∈ p :: ps, okP q) (hl : (p :: ps).length ≤ 100) :
    LCon pw w (G w.params) 24 (txC a (.int 5 tN) (.ref tp)) [(a, lst (stv (p :: ps)) n), (tp, tup [.int 3 t3, .int 4 t4]), (117, tbO [])] (fun o : Tok × List Value => ret (.str (S (recT ((p :: ps).map (·.1)) [tCDs ++ [53], tRRs ++ [51, 47, 52]])) o.1)) (fun o => [(a, lst (stv (p :: ps)) n), (tp, tup [.int 3 t3, .int 4 t4]), (117, tbO o.2)]) (fun _ => True) := by
  refine c_tx_rate w a tp t3 t4 tN p ps n _ hp hl fun e y qs m hq => ?_
  have h1 := spl_pcs _ (okP_map hp) hq
  have h2 := spl_pl _ hq
  rw [List.length_map] at h2
  obtain ⟨q, qs, rfl⟩ := spl_cons _ _ hq
  have h60 : (stv (q :: qs)).length < 2 ^ 60 := by rw [stv_len, h2]; omega
  have h100 : (q :: qs).length ≤ 100 := by rw [h2]; exact hl
  show LCon pw w (G w.params) 16 (esC e.x) (e.fs w.params (.int 5 tN) (.ref y.p) (stv (q :: qs)) m ++ y.fs w.params) (fun o : Tok => ret (.str (S (jn [10] (enR (spl ((p :: ps).map (·.1))) [tCDs ++ [53], tRRs ++ [51, 47, 52]]))) o)) (fun o => e.fs w.params (.int 5 tN) (.ref y.p) (stv (q :: qs)) m ++ y.fs w.params) (fun _ => True)
  rw [← hq]
  exact c_es_rate w e y tN q qs m h1 h100 h60
end Mine
end
set_option maxHeartbeats 1000000
noncomputable section
namespace Mine
section
variable {prog : Program} {w : World} {G : Nat → Option Obj}
theorem c_absN (a : Int) (t : Tok) : Con prog w G 0 (.call (.builtin "abs") ⟨[.int a t], []⟩) [] (fun t' : Tok => ret (.int (a.natAbs : Nat) t')) (fun _ => []) (fun _ => True) := by
  have := c_abs (prog := prog) (w := w) (G := G) a t
  have e : (if a < 0 then -a else a) = ((a.natAbs : Nat) : Int) := by split <;> omega
  rw [e] at this
  exact this
theorem c_modE (a b r : Int) (t u : Tok) (hb : b ≠ 0) (hr : a.fmod b = r) : Con prog w G 0 (.call (.builtin "int.__mod__") ⟨[.int a t, .int b u], []⟩) [] (fun t' : Tok => ret (.int r t')) (fun _ => []) (fun _ => True) := by
  subst hr
  exact c_mod a b t u hb
theorem c_modR (a b r : Nat) (t u : Tok) (hb : b ≠ 0) (hr : a % b = r) : Con prog w G 0 (.call (.builtin "int.__mod__") ⟨[.int a t, .int b u], []⟩) [] (fun t' : Tok => ret (.int r t')) (fun _ => []) (fun _ => True) := by
  subst hr
  exact c_modN a b t u hb
end
theorem LCon.perm1 {β : Type} {prog : Program} {w : World} {G : Nat → Option Obj} {k : Nat} {c : Code} {fs1 fs1' : Facts} {res : β → Result} {fs2 : β → Facts} {X : β → Prop} (C : LCon prog w G k c fs1 res fs2 X) (p : fs1'.Perm fs1) : LCon prog w G k c fs1' res fs2 X :=
  C.perm p fun _ => List.Perm.refl _
/-! ## pieces -/
noncomputable def pcs10 : List (List Nat) := [[97], [66], [32], [34], [92], [10], [9], [58], [35], []]
noncomputable def pvs (b : Nat) : List Value := [.str (S [97]) b, .str (S [66]) (b + 1), .str (S [32]) (b + 2), .str (S [34]) (b + 3), .str (S [92]) (b + 4), .str (S [10]) (b + 5), .str (S [9]) (b + 6), .str (S [58]) (b + 7), .str (S [35]) (b + 8), .str (S []) (b + 9)]
noncomputable def pcOf (c : Nat) : List Nat := pcs10.getD (c - 48) []
theorem fig_cases {c : Nat} (h : 48 ≤ c ∧ c ≤ 57) : c = 48 ∨ c = 49 ∨ c = 50 ∨ c = 51 ∨ c = 52 ∨ c = 53 ∨ c = 54 ∨ c = 55 ∨ c = 56 ∨ c = 57 :=
  (by decide : ∀ c < 58, 48 ≤ c → c = 48 ∨ c = 49 ∨ c = 50 ∨ c = 51 ∨ c = 52 ∨ c = 53 ∨ c = 54 ∨ c = 55 ∨ c = 56 ∨ c = 57) c (Nat.lt_succ_of_le h.2) h.1
theorem pvs_get {c : Nat} (b : Nat) (h : 48 ≤ c ∧ c ≤ 57) : (pvs b)[c - 48]? = some (.str (S (pcOf c)) (b + (c - 48))) := by
  rcases fig_cases h with rfl | rfl | rfl | rfl | rfl | rfl | rfl | rfl | rfl | rfl <;> rfl
theorem fig_int {c : Nat} (h : 48 ≤ c ∧ c ≤ 57) : PySem.intText? (one c) = some ((c - 48 : Nat) : Int) := by
  rcases fig_cases h with rfl | rfl | rfl | rfl | rfl | rfl | rfl | rfl | rfl | rfl <;> decide +kernel
theorem one_len (c : Nat) : (one c).length ≤ 640 := by show 1 ≤ 640; decide
theorem pc_len {c : Nat} (h : 48 ≤ c ∧ c ≤ 57) : (pcOf c).length ≤ 1 := by
  rcases fig_cases h with rfl | rfl | rfl | rfl | rfl | rfl | rfl | rfl | rfl | rfl <;> decide
theorem pc_ok {c : Nat} (h : 48 ≤ c ∧ c ≤ 57) : ∀ d ∈ pcOf c, d < 128 ∧ okc d := by
  rcases fig_cases h with rfl | rfl | rfl | rfl | rfl | rfl | rfl | rfl | rfl | rfl <;> (unfold okc; decide)
noncomputable def word (N : Nat) : List Nat := ((dig N).map pcOf).flatten
theorem flat_len : ∀ (l : List Nat), (∀ c ∈ l, 48 ≤ c ∧ c ≤ 57) → ((l.map pcOf).flatten).length ≤ l.length
  | [], _ => Nat.le_refl _
  | c :: l, h => by
    have h1 := pc_len (h c (.head _))
    have h2 := flat_len l fun d hd => h d (.tail _ hd)
    rw [List.map_cons, List.flatten_cons, List.length_append, List.length_cons]
    omega
theorem word_len {N : Nat} (h : N < 1000) : (word N).length ≤ 3 := Nat.le_trans (flat_len _ (dig_ok N)) (dig_len N h)
theorem word_ok (N : Nat) : ∀ d ∈ word N, d < 128 ∧ okc d := by
  intro d hd
  obtain ⟨l, hl, hd⟩ := List.mem_flatten.mp hd
  obtain ⟨c, hc, rfl⟩ := List.mem_map.mp hl
  exact pc_ok (dig_ok N c hc) d hd
theorem dig_asc (N : Nat) : (S (dig N)).cps.all (· < 128) = true := by
  show (⟨dig N⟩ : Array Nat).all (· < 128) = true
  simp only [List.all_toArray, List.all_eq_true, decide_eq_true_eq]
  intro c hc
  have := dig_ok N c hc
  omega
/-! ## the records in Lean -/
noncomputable def third (x : Int) : Nat := (x.fdiv 3).natAbs % 1000
theorem third_lt (x : Int) : third x < 1000 := Nat.mod_lt _ (by decide)
structure Rc where
  us : List (List Nat)
  dl : Option Nat
structure RO where
  (r a : Addr)
  (m k : Nat)
  ps : Pcs
  dl : Option (Nat × Tok)
noncomputable def RO.fs (o : RO) : Facts := [(o.r, lst [.ref o.a, dvOf o.dl, .none] o.m), (o.a, lst (stv o.ps) o.k)]
noncomputable def RO.rc (o : RO) : Rc := ⟨o.ps.map (·.1), o.dl.map (·.1)⟩
noncomputable def ROs (l : List RO) : Facts := l.flatMap RO.fs
noncomputable def stepR (s : List Rc × Rc) (x : Int) : List Rc × Rc :=
  if x.fmod 3 = 0 then (s.1 ++ [s.2], ⟨[], none⟩) else if x.fmod 3 = 1 then (s.1, ⟨s.2.us ++ [word (third x)], s.2.dl⟩) else (s.1, ⟨s.2.us, some (third x)⟩)
end Mine
end
set_option maxHeartbeats 1000000
noncomputable section
namespace Mine
/-! ## _law_records -/
noncomputable def reS : Stmt := stm 7
noncomputable def reQ : Str := S [95,108,97,119,95,114,101,99,111,114,100,115]
noncomputable def reE (L : Addr) : Env := envD (scoOf reS) reQ L 115 [(k_pieces, L + 1)] (.ref 114)
noncomputable def reC (nl : Addr) : Code := .call (.ref 115) ⟨[.ref nl], []⟩
noncomputable def re2 : Stmt := (bodOf reS).getD 2 nop
noncomputable def reL (L it : Addr) : Code := .forLoop (forT re2) (.ref it) (forB re2) [] (reE L)
noncomputable def exV : Stmt → Expr
  | .Expr v _ => v
  | _ => .Constant .none 0 ⟨0, 0, 0, 0⟩
noncomputable def reX : Expr := cal0 (cal0 (exV ((ifT ((ifE ((forB re2).getD 1 nop)).getD 0 nop)).getD 0 nop)))
noncomputable def reCL (L fr it acc : Addr) : Code := .compLoop reX 0 (.ref it) (.ref acc) (cmE (cellS (lcS reX)) reQ L fr [(k_pieces, fr + 1)] (.ref 114))
noncomputable def reCK (L fr it acc : Addr) : Code := .compStart reX 0 (.ref it) (.ref acc) (cmE (cellS (lcS reX)) reQ L fr [(k_pieces, fr + 1)] (.ref 114))
noncomputable def pcF (fr pc : Addr) (b : Nat) : Facts := [(fr + 1, cel (.ref pc)), (pc, lst (pvs b) 0)]
noncomputable def isFig (c : Nat) : Prop := 48 ≤ c ∧ c ≤ 57
theorem fig_lt {c : Nat} (h : isFig c) : c - 48 < 1000000 := by unfold isFig at h; omega
theorem re_cstep (w : World) (L fr it acc pc : Addr) (b : Nat) (x : Str) (xt : Tok) : TStep w (reCL L fr it acc) 12 k_figure L it acc x xt pcOf (pcF fr pc b) isFig := by
  intro o i c vs n β fs2 X hx hk hv IH
  rcases o with _ | ⟨a, ch, tc⟩
  · refine lcon_in rfl fun A hA hA1 h sz tk g d os D E0 => ?_
    refine gu (c_snx it x xt i c hx) [2] [(L, tgD w.params k_figure none), (it, saO x xt i), (acc, lst vs n), ((fr + 1), cel (.ref pc)), (pc, lst (pvs b) 0)] sz tk [1] (hA.le (by decide)) D E0 (by kernel_rfl) ⟨by decide, by kernel_rfl, rfl⟩ (fun _ => rfl) fun t1 h1 sz1 tk1 hX1 D1 E1 => ?_
    refine gu (c_int (one c) t1 (↑(c - 48)) (fig_int hk) (one_len c)) [1,1,4,0,0,1] [(L, dic [nt w.params k_figure tk1 (.str (one c) t1)] 1), (it, saO x xt (i + 1)), (acc, lst vs n), ((fr + 1), cel (.ref pc)), (pc, lst (pvs b) 0)] sz1 (tk1 + 1) [] (hA.le (by decide)) D1 E1 (by kernel_rfl) ⟨by decide, by kernel_rfl, rfl⟩ (fun _ => rfl) fun t2 h2 sz2 tk2 hX2 D2 E2 => ?_
    refine gu (c_lget pc (pvs b) (.str (S (pcOf c)) (b + (c - 48))) 0 (c - 48) t2 (pvs_get b hk) (fig_lt hk)) [5,5,5] [(L, dic [nt w.params k_figure tk1 (.str (one c) t1)] 1), (it, saO x xt (i + 1)), (acc, lst vs n), ((fr + 1), cel (.ref pc)), (pc, lst (pvs b) 0)] sz2 tk2 [4] (hA.le (by decide)) D2 E2 (by kernel_rfl) ⟨by decide, by kernel_rfl, rfl⟩ (fun _ => rfl) fun r3 h3 sz3 tk3 hX3 D3 E3 => ?_
    refine gu (c_append acc (.str (S (pcOf c)) (b + (c - 48))) vs n hv) [] [(L, dic [nt w.params k_figure tk1 (.str (one c) t1)] 1), (it, saO x xt (i + 1)), (acc, lst vs n), ((fr + 1), cel (.ref pc)), (pc, lst (pvs b) 0)] sz3 tk3 [2] (hA.le (by decide)) D3 E3 (by kernel_rfl) ⟨by decide, by kernel_rfl, rfl⟩ (fun _ => rfl) fun r4 h4 sz4 tk4 hX4 D4 E4 => ?_
    exact ga (IH tk1 t1 (b + (c - 48))) [] [0,1,2,3,4] hA (hA1.le (by decide)) D4 E4 (by kernel_rfl) (by decide) (by kernel_rfl)
  · refine lcon_in rfl fun A hA hA1 h sz tk g d os D E0 => ?_
    refine gu (c_snx it x xt i c hx) [2] [(L, tgD w.params k_figure (some (a, ch, tc))), (it, saO x xt i), (acc, lst vs n), ((fr + 1), cel (.ref pc)), (pc, lst (pvs b) 0)] sz tk [1] (hA.le (by decide)) D E0 (by kernel_rfl) ⟨by decide, by kernel_rfl, rfl⟩ (fun _ => rfl) fun t1 h1 sz1 tk1 hX1 D1 E1 => ?_
    refine gu (c_int (one c) t1 (↑(c - 48)) (fig_int hk) (one_len c)) [1,1,4,0,0,1] [(L, dic [nt w.params k_figure a (.str (one c) t1)] 1), (it, saO x xt (i + 1)), (acc, lst vs n), ((fr + 1), cel (.ref pc)), (pc, lst (pvs b) 0)] sz1 (tk1 + 1) [] (hA.le (by decide)) D1 E1 (by kernel_rfl) ⟨by decide, by kernel_rfl, rfl⟩ (fun _ => rfl) fun t2 h2 sz2 tk2 hX2 D2 E2 => ?_
    refine gu (c_lget pc (pvs b) (.str (S (pcOf c)) (b + (c - 48))) 0 (c - 48) t2 (pvs_get b hk) (fig_lt hk)) [5,5,5] [(L, dic [nt w.params k_figure a (.str (one c) t1)] 1), (it, saO x xt (i + 1)), (acc, lst vs n), ((fr + 1), cel (.ref pc)), (pc, lst (pvs b) 0)] sz2 tk2 [4] (hA.le (by decide)) D2 E2 (by kernel_rfl) ⟨by decide, by kernel_rfl, rfl⟩ (fun _ => rfl) fun r3 h3 sz3 tk3 hX3 D3 E3 => ?_
    refine gu (c_append acc (.str (S (pcOf c)) (b + (c - 48))) vs n hv) [] [(L, dic [nt w.params k_figure a (.str (one c) t1)] 1), (it, saO x xt (i + 1)), (acc, lst vs n), ((fr + 1), cel (.ref pc)), (pc, lst (pvs b) 0)] sz3 tk3 [2] (hA.le (by decide)) D3 E3 (by kernel_rfl) ⟨by decide, by kernel_rfl, rfl⟩ (fun _ => rfl) fun r4 h4 sz4 tk4 hX4 D4 E4 => ?_
    exact ga (IH a t1 (b + (c - 48))) [] [0,1,2,3,4] hA (hA1.le (by decide)) D4 E4 (by kernel_rfl) (by decide) (by kernel_rfl)
theorem re_cstop (w : World) (L fr it acc pc : Addr) (b : Nat) (x : Str) (xt : Tok) : TStop w (reCL L fr it acc) 12 k_figure L it acc x xt (pcF fr pc b) := by
  intro o i vs n hx
  rcases o with _ | ⟨a, ch, tc⟩
  · refine lcon_in rfl fun A hA hA1 h sz tk g d os D E0 => ?_
    refine gu (c_snE it x xt i hx) [2] [(L, tgD w.params k_figure none), (it, saO x xt i), (acc, lst vs n), ((fr + 1), cel (.ref pc)), (pc, lst (pvs b) 0)] sz tk [1] (hA.le (by decide)) D E0 (by kernel_rfl) ⟨by decide, by kernel_rfl, rfl⟩ (fun _ => rfl) fun y1 h1 sz1 tk1 hX1 D1 E1 => ?_
    exact gf (()) [7] [0,1,2,3,4] hA D1 E1 (by kernel_rfl) (by decide) rfl (trivial)
  · refine lcon_in rfl fun A hA hA1 h sz tk g d os D E0 => ?_
    refine gu (c_snE it x xt i hx) [2] [(L, tgD w.params k_figure (some (a, ch, tc))), (it, saO x xt i), (acc, lst vs n), ((fr + 1), cel (.ref pc)), (pc, lst (pvs b) 0)] sz tk [1] (hA.le (by decide)) D E0 (by kernel_rfl) ⟨by decide, by kernel_rfl, rfl⟩ (fun _ => rfl) fun y1 h1 sz1 tk1 hX1 D1 E1 => ?_
    exact gf (()) [7] [0,1,2,3,4] hA D1 E1 (by kernel_rfl) (by decide) rfl (trivial)
theorem re_ck (w : World) (L fr it acc pc : Addr) (b : Nat) (x : Str) (xt : Tok) (c : Nat) (l : List Nat) (hx : x.cps.toList = c :: l) (hk : ∀ c' ∈ c :: l, isFig c') (hv : l.length + 1 ≤ sizeLine) :
    LCon pw w (G w.params) 13 (reCK L fr it acc) (tFs w.params k_figure L it acc none (saO x xt 0) [] 0 (pcF fr pc b)) (fun _ : TOut => .ok .next) (tEnd w.params k_figure L it acc [] (pcF fr pc b)) (fun r => r.ps.map (·.1) = (c :: l).map pcOf) := by
  refine tv_all (p := fun w => LCon pw w (G w.params) 13 (reCK L fr it acc) (tFs w.params k_figure L it acc none (saO x xt 0) [] 0 (pcF fr pc b)) (fun _ : TOut => .ok .next) (tEnd w.params k_figure L it acc [] (pcF fr pc b)) (fun r => r.ps.map (·.1) = (c :: l).map pcOf)) (fun w => ?_) (fun w => ?_) w
  · refine lcon_in rfl fun A hA hA1 h sz tk g d os D E0 => ?_
    exact ga (txt_cons (tv w true) (reCL L fr it acc) 12 k_figure L it acc x xt pcOf (pcF fr pc b) (re_cstep (tv w true) L fr it acc pc b x xt) (re_cstop (tv w true) L fr it acc pc b x xt) c l hx hk hv) [] [0,1,2,3,4] hA (hA1.le (by decide)) D E0 (by kernel_rfl) (by decide) (by kernel_rfl)
  · refine lcon_in rfl fun A hA hA1 h sz tk g d os D E0 => ?_
    exact ga (txt_cons (tv w false) (reCL L fr it acc) 12 k_figure L it acc x xt pcOf (pcF fr pc b) (re_cstep (tv w false) L fr it acc pc b x xt) (re_cstop (tv w false) L fr it acc pc b x xt) c l hx hk hv) [2,2,0,2,0,2] [0,1,2,3,4] hA (hA1.le (by decide)) D E0 (by generalize w = w'; revert w'; exact tw_fa (by kernel_rfl) (by kernel_rfl)) (by decide) (by kernel_rfl)
/-! ### a turn of the loop -/
structure RX where
  (L it nl pc R : Addr)
  (b1 b2 : Tok)
  b : Nat
noncomputable def reF (P : Params) (y : RX) (o : Option (Tok × Tok × Int × Tok × Nat × Tok)) : Obj := match o with
  | none => fra [nt P k_numbers y.b1 (.ref y.nl), nt P k_records y.b2 (.ref y.R)] 2
  | some (c1, c2, x, tx, t3, tt) => fra [nt P k_numbers y.b1 (.ref y.nl), nt P k_records y.b2 (.ref y.R), nt P k_x c1 (.int x tx), nt P k_third c2 (.int t3 tt)] 4
noncomputable def reFs (P : Params) (y : RX) (ito : Obj) (xs : List Value) (xn : Nat) (o : Option (Tok × Tok × Int × Tok × Nat × Tok)) (rvs : List Value) (rn : Nat) (r a : Addr) (m k : Nat) (dv : Value) (avs : List Value) : Facts :=
  [(y.L, reF P y o), (y.it, ito), (y.nl, lst xs xn), (y.L + 1, cel (.ref y.pc)), (y.pc, lst (pvs y.b) 0), (y.R, lst (rvs ++ [.ref r]) rn), (r, lst [.ref a, dv, .none] m), (a, lst avs k)]
theorem three : (3 : Int) ≠ 0 := by decide
theorem three2 : (3 : Int).natAbs < 1073741824 := by decide
theorem thou : (1000 : Nat) ≠ 0 := by decide
theorem z_lt : 0 < 1000000 := by decide
theorem two_lt : 2 < 1000000 := by decide
theorem re_t0 (w : World) (y : RX) (xs : List Value) (xn i : Nat) (x : Int) (t : Tok) (hx : xs[i]? = some (.int x t)) (hm : x.fmod 3 = 0) (N : Nat) (hN : (x.fdiv 3).natAbs % 1000 = N) (o : Option (Tok × Tok × Int × Tok × Nat × Tok)) (rvs : List Value) (rn : Nat) (r a : Addr) (m k : Nat) (dv : Value) (avs : List Value) (hv : (rvs ++ [Value.ref r]).length ≤ sizeLine) (T : Facts) (β : Type) (fs2 : β → Facts) (X : β → Prop)
    (IH : ∀ (o' : Tok × Tok × Int × Tok × Nat × Tok) (r' a' : Addr), LCon pw w (G w.params) 20 (reL y.L y.it) ((reFs w.params y (liO y.nl (i + 1)) xs xn (some o') (rvs ++ [.ref r]) (rn + 1) r' a' 0 0 .none [] ++ [(r, lst [.ref a, dv, .none] m), (a, lst avs k)]) ++ T) (fun _ => .ok .next) fs2 X) :
    LCon pw w (G w.params) 20 (reL y.L y.it) (reFs w.params y (liO y.nl i) xs xn o rvs rn r a m k dv avs ++ T) (fun _ => .ok .next) fs2 X := by
  rcases o with _ | ⟨c1, c2, x0, tx, tt3, tt⟩
  · refine lcon_in rfl fun A hA hA1 h sz tk g d os DD EE => ?_
    have D := DD.left
    have E0 := Since.start h (reFs w.params y (liO y.nl i) xs xn none rvs rn r a m k dv avs)
    refine gu (c_lnx y.it y.nl xs xn i (.int x t) hx) [2] [(y.1, reF w.params y none), (y.2, liO y.nl i), (y.3, lst xs xn), ((y.1 + 1), cel (.ref y.pc)), (y.4, lst (pvs y.b) 0), (y.5, lst (rvs ++ [.ref r]) rn), (r, lst [.ref a, dv, .none] m), (a, lst avs k)] sz tk [1,2] (hA.le (by decide)) D E0 (by kernel_rfl) ⟨by decide, by kernel_rfl, rfl⟩ (fun _ => rfl) fun r1 h1 sz1 tk1 hX1 D1 E1 => ?_
    refine gu (c_fdiv x 3 t (tk1 + 1) three three2) [1,1,0,0,1] [(y.1, fra [nt w.params k_numbers y.6 (.ref y.3), nt w.params k_records y.7 (.ref y.5), nt w.params k_x tk1 (.int (x) t)] 3), (y.2, liO y.nl (i + 1)), (y.3, lst xs xn), ((y.1 + 1), cel (.ref y.pc)), (y.4, lst (pvs y.b) 0), (y.5, lst (rvs ++ [.ref r]) rn), (r, lst [.ref a, dv, .none] m), (a, lst avs k)] sz1 (tk1 + 2) [] (hA.le (by decide)) D1 E1 (by kernel_rfl) ⟨by decide, by kernel_rfl, rfl⟩ (fun _ => rfl) fun t2 h2 sz2 tk2 hX2 D2 E2 => ?_
    refine gu (c_absN (Int.fdiv x 3) t2) [] [(y.1, fra [nt w.params k_numbers y.b1 (.ref y.nl), nt w.params k_records y.b2 (.ref y.R), nt w.params k_x tk1 (.int x t)] 3), (y.2, liO y.nl (i + 1)), (y.3, lst xs xn), ((y.1 + 1), cel (.ref y.pc)), (y.4, lst (pvs y.b) 0), (y.5, lst (rvs ++ [.ref r]) rn), (r, lst [.ref a, dv, .none] m), (a, lst avs k)] sz2 tk2 [] (hA.le (by decide)) D2 E2 (by kernel_rfl) ⟨by decide, by kernel_rfl, rfl⟩ (fun _ => rfl) fun t3 h3 sz3 tk3 hX3 D3 E3 => ?_
    refine gu (c_modR (Int.natAbs (Int.fdiv x 3)) 1000 N t3 tk3 thou hN) [] [(y.1, fra [nt w.params k_numbers y.b1 (.ref y.nl), nt w.params k_records y.b2 (.ref y.R), nt w.params k_x tk1 (.int x t)] 3), (y.2, liO y.nl (i + 1)), (y.3, lst xs xn), ((y.1 + 1), cel (.ref y.pc)), (y.4, lst (pvs y.b) 0), (y.5, lst (rvs ++ [.ref r]) rn), (r, lst [.ref a, dv, .none] m), (a, lst avs k)] sz3 (tk3 + 1) [] (hA.le (by decide)) D3 E3 (by kernel_rfl) ⟨by decide, by kernel_rfl, rfl⟩ (fun _ => rfl) fun t4 h4 sz4 tk4 hX4 D4 E4 => ?_
    refine gu (c_modE x 3 0 t (tk4 + 1) three hm) [1,1,1] [(y.1, fra [nt w.params k_numbers y.6 (.ref y.3), nt w.params k_records y.7 (.ref y.5), nt w.params k_x tk1 (.int (x) t), nt w.params k_third tk4 (.int (Int.ofNat N) t4)] 4), (y.2, liO y.nl (i + 1)), (y.3, lst xs xn), ((y.1 + 1), cel (.ref y.pc)), (y.4, lst (pvs y.b) 0), (y.5, lst (rvs ++ [.ref r]) rn), (r, lst [.ref a, dv, .none] m), (a, lst avs k)] sz4 (tk4 + 2) [] (hA.le (by decide)) D4 E4 (by kernel_rfl) ⟨by decide, by kernel_rfl, rfl⟩ (fun _ => rfl) fun t5 h5 sz5 tk5 hX5 D5 E5 => ?_
    refine gu (c_append y.R (.ref (sz5 + 1)) (rvs ++ [.ref r]) rn hv) [0,0,1,6,6,6,6] [(y.1, fra [nt w.params k_numbers y.b1 (.ref y.nl), nt w.params k_records y.b2 (.ref y.R), nt w.params k_x tk1 (.int x t), nt w.params k_third tk4 (.int (Int.ofNat N) t4)] 4), (y.2, liO y.nl (i + 1)), (y.3, lst xs xn), ((y.1 + 1), cel (.ref y.pc)), (y.4, lst (pvs y.b) 0), (y.5, lst (rvs ++ [.ref r]) rn), (r, lst [.ref a, dv, .none] m), (a, lst avs k), (sz5, lst [] 0), ((sz5 + 1), lst [(.ref sz5), .none, .none] 0)] (sz5 + 2) (tk5 + 1) [5] (hA.le (by decide)) D5 E5 (by generalize w = w'; revert w'; exact tw_fa (by kernel_rfl) (by kernel_rfl)) ⟨by decide, by kernel_rfl, rfl⟩ (fun _ => rfl) fun r6 h6 sz6 tk6 hX6 D6 E6 => ?_
    exact gaT (IH (tk1, tk4, x, t, N, t4) (sz5 + 1) sz5) DD EE [] [0,1,2,3,4,5,9,8,6,7] hA (hA1.le (by decide)) D6 E6 (by generalize w = w'; revert w'; exact tw_fa (by kernel_rfl) (by kernel_rfl)) (by decide) (by kernel_rfl)
  · refine lcon_in rfl fun A hA hA1 h sz tk g d os DD EE => ?_
    have D := DD.left
    have E0 := Since.start h (reFs w.params y (liO y.nl i) xs xn (some (c1, c2, x0, tx, tt3, tt)) rvs rn r a m k dv avs)
    refine gu (c_lnx y.it y.nl xs xn i (.int x t) hx) [2] [(y.1, reF w.params y (some (c1, c2, x0, tx, tt3, tt))), (y.2, liO y.nl i), (y.3, lst xs xn), ((y.1 + 1), cel (.ref y.pc)), (y.4, lst (pvs y.b) 0), (y.5, lst (rvs ++ [.ref r]) rn), (r, lst [.ref a, dv, .none] m), (a, lst avs k)] sz tk [1,2] (hA.le (by decide)) D E0 (by kernel_rfl) ⟨by decide, by kernel_rfl, rfl⟩ (fun _ => rfl) fun r1 h1 sz1 tk1 hX1 D1 E1 => ?_
    refine gu (c_fdiv x 3 t (tk1 + 1) three three2) [1,1,0,0,1] [(y.1, fra [nt w.params k_numbers y.6 (.ref y.3), nt w.params k_records y.7 (.ref y.5), nt w.params k_x c1 (.int (x) t), nt w.params k_third c2 (.int (Int.ofNat tt3) tt)] 4), (y.2, liO y.nl (i + 1)), (y.3, lst xs xn), ((y.1 + 1), cel (.ref y.pc)), (y.4, lst (pvs y.b) 0), (y.5, lst (rvs ++ [.ref r]) rn), (r, lst [.ref a, dv, .none] m), (a, lst avs k)] sz1 (tk1 + 2) [] (hA.le (by decide)) D1 E1 (by kernel_rfl) ⟨by decide, by kernel_rfl, rfl⟩ (fun _ => rfl) fun t2 h2 sz2 tk2 hX2 D2 E2 => ?_
    refine gu (c_absN (Int.fdiv x 3) t2) [] [(y.1, fra [nt w.params k_numbers y.b1 (.ref y.nl), nt w.params k_records y.b2 (.ref y.R), nt w.params k_x c1 (.int x t), nt w.params k_third c2 (.int (Int.ofNat tt3) tt)] 4), (y.2, liO y.nl (i + 1)), (y.3, lst xs xn), ((y.1 + 1), cel (.ref y.pc)), (y.4, lst (pvs y.b) 0), (y.5, lst (rvs ++ [.ref r]) rn), (r, lst [.ref a, dv, .none] m), (a, lst avs k)] sz2 tk2 [] (hA.le (by decide)) D2 E2 (by kernel_rfl) ⟨by decide, by kernel_rfl, rfl⟩ (fun _ => rfl) fun t3 h3 sz3 tk3 hX3 D3 E3 => ?_
    refine gu (c_modR (Int.natAbs (Int.fdiv x 3)) 1000 N t3 tk3 thou hN) [] [(y.1, fra [nt w.params k_numbers y.b1 (.ref y.nl), nt w.params k_records y.b2 (.ref y.R), nt w.params k_x c1 (.int x t), nt w.params k_third c2 (.int (Int.ofNat tt3) tt)] 4), (y.2, liO y.nl (i + 1)), (y.3, lst xs xn), ((y.1 + 1), cel (.ref y.pc)), (y.4, lst (pvs y.b) 0), (y.5, lst (rvs ++ [.ref r]) rn), (r, lst [.ref a, dv, .none] m), (a, lst avs k)] sz3 (tk3 + 1) [] (hA.le (by decide)) D3 E3 (by kernel_rfl) ⟨by decide, by kernel_rfl, rfl⟩ (fun _ => rfl) fun t4 h4 sz4 tk4 hX4 D4 E4 => ?_
    refine gu (c_modE x 3 0 t (tk4 + 1) three hm) [1,1,1] [(y.1, fra [nt w.params k_numbers y.6 (.ref y.3), nt w.params k_records y.7 (.ref y.5), nt w.params k_x c1 (.int (x) t), nt w.params k_third c2 (.int (Int.ofNat N) t4)] 4), (y.2, liO y.nl (i + 1)), (y.3, lst xs xn), ((y.1 + 1), cel (.ref y.pc)), (y.4, lst (pvs y.b) 0), (y.5, lst (rvs ++ [.ref r]) rn), (r, lst [.ref a, dv, .none] m), (a, lst avs k)] sz4 (tk4 + 2) [] (hA.le (by decide)) D4 E4 (by kernel_rfl) ⟨by decide, by kernel_rfl, rfl⟩ (fun _ => rfl) fun t5 h5 sz5 tk5 hX5 D5 E5 => ?_
    refine gu (c_append y.R (.ref (sz5 + 1)) (rvs ++ [.ref r]) rn hv) [0,0,1,6,6,6,6] [(y.1, fra [nt w.params k_numbers y.b1 (.ref y.nl), nt w.params k_records y.b2 (.ref y.R), nt w.params k_x c1 (.int x t), nt w.params k_third c2 (.int (Int.ofNat N) t4)] 4), (y.2, liO y.nl (i + 1)), (y.3, lst xs xn), ((y.1 + 1), cel (.ref y.pc)), (y.4, lst (pvs y.b) 0), (y.5, lst (rvs ++ [.ref r]) rn), (r, lst [.ref a, dv, .none] m), (a, lst avs k), (sz5, lst [] 0), ((sz5 + 1), lst [(.ref sz5), .none, .none] 0)] (sz5 + 2) (tk5 + 1) [5] (hA.le (by decide)) D5 E5 (by generalize w = w'; revert w'; exact tw_fa (by kernel_rfl) (by kernel_rfl)) ⟨by decide, by kernel_rfl, rfl⟩ (fun _ => rfl) fun r6 h6 sz6 tk6 hX6 D6 E6 => ?_
    exact gaT (IH (c1, c2, x, t, N, t4) (sz5 + 1) sz5) DD EE [] [0,1,2,3,4,5,9,8,6,7] hA (hA1.le (by decide)) D6 E6 (by generalize w = w'; revert w'; exact tw_fa (by kernel_rfl) (by kernel_rfl)) (by decide) (by kernel_rfl)
theorem re_t1 (w : World) (y : RX) (xs : List Value) (xn i : Nat) (x : Int) (t : Tok) (hx : xs[i]? = some (.int x t)) (hm : x.fmod 3 = 1) (N : Nat) (hN : (x.fdiv 3).natAbs % 1000 = N) (hlt : N < 1000) (c : Nat) (l : List Nat) (hd : dig N = c :: l) (hf : ∀ c' ∈ c :: l, isFig c') (hasc : (S (c :: l)).cps.all (· < 128) = true) (hl : l.length + 1 ≤ sizeLine) (hl3 : l.length ≤ 2) (Wd : List Nat) (hW : ((c :: l).map pcOf).flatten = Wd) (o : Option (Tok × Tok × Int × Tok × Nat × Tok)) (rvs : List Value) (rn : Nat) (r a : Addr) (m k : Nat) (dv : Value) (avs : List Value) (hv : rvs.length < 1000000) (hva : avs.length ≤ sizeLine) (T : Facts) (β : Type) (fs2 : β → Facts) (X : β → Prop)
    (IH : ∀ (o' : Tok × Tok × Int × Tok × Nat × Tok) (tw : Tok), LCon pw w (G w.params) 20 (reL y.L y.it) (reFs w.params y (liO y.nl (i + 1)) xs xn (some o') rvs rn r a m (k + 1) dv (avs ++ [.str (S Wd) tw]) ++ T) (fun _ => .ok .next) fs2 X) :
    LCon pw w (G w.params) 20 (reL y.L y.it) (reFs w.params y (liO y.nl i) xs xn o rvs rn r a m k dv avs ++ T) (fun _ => .ok .next) fs2 X := by
  rcases o with _ | ⟨c1, c2, x0, tx, tt3, tt⟩
  · refine lcon_in rfl fun A hA hA1 h sz tk g d os DD EE => ?_
    have D := DD.left
    have E0 := Since.start h (reFs w.params y (liO y.nl i) xs xn none rvs rn r a m k dv avs)
    refine gu (c_lnx y.it y.nl xs xn i (.int x t) hx) [2] [(y.1, reF w.params y none), (y.2, liO y.nl i), (y.3, lst xs xn), ((y.1 + 1), cel (.ref y.pc)), (y.4, lst (pvs y.b) 0), (y.5, lst (rvs ++ [.ref r]) rn), (r, lst [.ref a, dv, .none] m), (a, lst avs k)] sz tk [1,2] (hA.le (by decide)) D E0 (by kernel_rfl) ⟨by decide, by kernel_rfl, rfl⟩ (fun _ => rfl) fun r1 h1 sz1 tk1 hX1 D1 E1 => ?_
    refine gu (c_fdiv x 3 t (tk1 + 1) three three2) [1,1,0,0,1] [(y.1, fra [nt w.params k_numbers y.6 (.ref y.3), nt w.params k_records y.7 (.ref y.5), nt w.params k_x tk1 (.int (x) t)] 3), (y.2, liO y.nl (i + 1)), (y.3, lst xs xn), ((y.1 + 1), cel (.ref y.pc)), (y.4, lst (pvs y.b) 0), (y.5, lst (rvs ++ [.ref r]) rn), (r, lst [.ref a, dv, .none] m), (a, lst avs k)] sz1 (tk1 + 2) [] (hA.le (by decide)) D1 E1 (by kernel_rfl) ⟨by decide, by kernel_rfl, rfl⟩ (fun _ => rfl) fun t2 h2 sz2 tk2 hX2 D2 E2 => ?_
    refine gu (c_absN (Int.fdiv x 3) t2) [] [(y.1, fra [nt w.params k_numbers y.b1 (.ref y.nl), nt w.params k_records y.b2 (.ref y.R), nt w.params k_x tk1 (.int x t)] 3), (y.2, liO y.nl (i + 1)), (y.3, lst xs xn), ((y.1 + 1), cel (.ref y.pc)), (y.4, lst (pvs y.b) 0), (y.5, lst (rvs ++ [.ref r]) rn), (r, lst [.ref a, dv, .none] m), (a, lst avs k)] sz2 tk2 [] (hA.le (by decide)) D2 E2 (by kernel_rfl) ⟨by decide, by kernel_rfl, rfl⟩ (fun _ => rfl) fun t3 h3 sz3 tk3 hX3 D3 E3 => ?_
    refine gu (c_modR (Int.natAbs (Int.fdiv x 3)) 1000 N t3 tk3 thou hN) [] [(y.1, fra [nt w.params k_numbers y.b1 (.ref y.nl), nt w.params k_records y.b2 (.ref y.R), nt w.params k_x tk1 (.int x t)] 3), (y.2, liO y.nl (i + 1)), (y.3, lst xs xn), ((y.1 + 1), cel (.ref y.pc)), (y.4, lst (pvs y.b) 0), (y.5, lst (rvs ++ [.ref r]) rn), (r, lst [.ref a, dv, .none] m), (a, lst avs k)] sz3 (tk3 + 1) [] (hA.le (by decide)) D3 E3 (by kernel_rfl) ⟨by decide, by kernel_rfl, rfl⟩ (fun _ => rfl) fun t4 h4 sz4 tk4 hX4 D4 E4 => ?_
    refine gu (c_modE x 3 1 t (tk4 + 1) three hm) [1,1,1] [(y.1, fra [nt w.params k_numbers y.6 (.ref y.3), nt w.params k_records y.7 (.ref y.5), nt w.params k_x tk1 (.int (x) t), nt w.params k_third tk4 (.int (Int.ofNat N) t4)] 4), (y.2, liO y.nl (i + 1)), (y.3, lst xs xn), ((y.1 + 1), cel (.ref y.pc)), (y.4, lst (pvs y.b) 0), (y.5, lst (rvs ++ [.ref r]) rn), (r, lst [.ref a, dv, .none] m), (a, lst avs k)] sz4 (tk4 + 2) [] (hA.le (by decide)) D4 E4 (by kernel_rfl) ⟨by decide, by kernel_rfl, rfl⟩ (fun _ => rfl) fun t5 h5 sz5 tk5 hX5 D5 E5 => ?_
    refine gu (c_modE x 3 1 t (tk5 + 1) three hm) [0,0,1] [(y.1, fra [nt w.params k_numbers y.b1 (.ref y.nl), nt w.params k_records y.b2 (.ref y.R), nt w.params k_x tk1 (.int x t), nt w.params k_third tk4 (.int (Int.ofNat N) t4)] 4), (y.2, liO y.nl (i + 1)), (y.3, lst xs xn), ((y.1 + 1), cel (.ref y.pc)), (y.4, lst (pvs y.b) 0), (y.5, lst (rvs ++ [.ref r]) rn), (r, lst [.ref a, dv, .none] m), (a, lst avs k)] sz5 (tk5 + 2) [] (hA.le (by decide)) D5 E5 (by generalize w = w'; revert w'; exact tw_fa (by kernel_rfl) (by kernel_rfl)) ⟨by decide, by kernel_rfl, rfl⟩ (fun _ => rfl) fun t6 h6 sz6 tk6 hX6 D6 E6 => ?_
    refine gu (c_lgm y.R rvs (.ref r) rn (tk6 + 2) hv) [0,0,1,0,0,6,6,6] [(y.1, fra [nt w.params k_numbers y.b1 (.ref y.nl), nt w.params k_records y.b2 (.ref y.R), nt w.params k_x tk1 (.int x t), nt w.params k_third tk4 (.int (Int.ofNat N) t4)] 4), (y.2, liO y.nl (i + 1)), (y.3, lst xs xn), ((y.1 + 1), cel (.ref y.pc)), (y.4, lst (pvs y.b) 0), (y.5, lst (rvs ++ [.ref r]) rn), (r, lst [.ref a, dv, .none] m), (a, lst avs k)] sz6 (tk6 + 3) [5] (hA.le (by decide)) D6 E6 (by generalize w = w'; revert w'; exact tw_fa (by kernel_rfl) (by kernel_rfl)) ⟨by decide, by kernel_rfl, rfl⟩ (fun _ => rfl) fun t7 h7 sz7 tk7 hX7 D7 E7 => ?_
    refine gu (c_lget r [.ref a, dv, .none] (.ref a) m 0 tk7 rfl z_lt) [7,7,7] [(y.1, fra [nt w.params k_numbers y.b1 (.ref y.nl), nt w.params k_records y.b2 (.ref y.R), nt w.params k_x tk1 (.int x t), nt w.params k_third tk4 (.int (Int.ofNat N) t4)] 4), (y.2, liO y.nl (i + 1)), (y.3, lst xs xn), ((y.1 + 1), cel (.ref y.pc)), (y.4, lst (pvs y.b) 0), (y.5, lst (rvs ++ [.ref r]) rn), (r, lst [.ref a, dv, .none] m), (a, lst avs k)] sz7 (tk7 + 1) [6] (hA.le (by decide)) D7 E7 (by generalize w = w'; revert w'; exact tw_fa (by kernel_rfl) (by kernel_rfl)) ⟨by decide, by kernel_rfl, rfl⟩ (fun _ => rfl) fun t8 h8 sz8 tk8 hX8 D8 E8 => ?_
    refine gu (c_stri N (c :: l) hd hlt t4) [0,8,8,8,8,0,0,1] [(y.1, fra [nt w.params k_numbers y.b1 (.ref y.nl), nt w.params k_records y.b2 (.ref y.R), nt w.params k_x tk1 (.int x t), nt w.params k_third tk4 (.int (Int.ofNat N) t4)] 4), (y.2, liO y.nl (i + 1)), (y.3, lst xs xn), ((y.1 + 1), cel (.ref y.pc)), (y.4, lst (pvs y.b) 0), (y.5, lst (rvs ++ [.ref r]) rn), (r, lst [.ref a, dv, .none] m), (a, lst avs k)] sz8 (tk8 + 1) [] (hA.le (by decide)) D8 E8 (by generalize w = w'; revert w'; exact tw_fa (by kernel_rfl) (by kernel_rfl)) ⟨by decide, by kernel_rfl, rfl⟩ (fun _ => rfl) fun t9 h9 sz9 tk9 hX9 D9 E9 => ?_
    refine gu (c_sit (S (c :: l)) t9 hasc) [] [(y.1, fra [nt w.params k_numbers y.b1 (.ref y.nl), nt w.params k_records y.b2 (.ref y.R), nt w.params k_x tk1 (.int x t), nt w.params k_third tk4 (.int (Int.ofNat N) t4)] 4), (y.2, liO y.nl (i + 1)), (y.3, lst xs xn), ((y.1 + 1), cel (.ref y.pc)), (y.4, lst (pvs y.b) 0), (y.5, lst (rvs ++ [.ref r]) rn), (r, lst [.ref a, dv, .none] m), (a, lst avs k)] sz9 tk9 [] (hA.le (by decide)) D9 E9 (by generalize w = w'; revert w'; exact tw_fa (by kernel_rfl) (by kernel_rfl)) ⟨by decide, by kernel_rfl, rfl⟩ (fun _ => rfl) fun it h10 sz10 tk10 hX10 D10 E10 => ?_
    refine gu (LCon.con (re_ck w (sz10 + 1) y.L it sz10 y.pc y.b (S (c :: l)) t9 c l rfl hf hl)) [9] [(y.1, fra [nt w.params k_numbers y.b1 (.ref y.nl), nt w.params k_records y.b2 (.ref y.R), nt w.params k_x tk1 (.int x t), nt w.params k_third tk4 (.int (Int.ofNat N) t4)] 4), (y.2, liO y.nl (i + 1)), (y.3, lst xs xn), ((y.1 + 1), cel (.ref y.pc)), (y.4, lst (pvs y.b) 0), (y.5, lst (rvs ++ [.ref r]) rn), (r, lst [.ref a, dv, .none] m), (a, lst avs k), (it, saO (S (c :: l)) t9 0), (sz10, lst [] 0), ((sz10 + 1), dic [] 0)] (sz10 + 2) tk10 [10,8,9,3,4] (hA.le (by decide)) D10 E10 (by generalize w = w'; revert w'; exact tw_fa (by kernel_rfl) (by kernel_rfl)) ⟨by decide, by kernel_rfl, rfl⟩ (fun _ => rfl) fun o11 h11 sz11 tk11 hX11 D11 E11 => ?_
    have hj : tot ([] : List Nat).length (o11.ps.map (·.1)) ≤ 1000000 := by
      rw [hX11]
      refine Nat.le_trans (tot_le 0 _ fun x hx => ?_) (by rw [List.length_map, List.length_cons]; omega)
      obtain ⟨d, hd', rfl⟩ := List.mem_map.mp hx
      exact Nat.le_trans (pc_len (hf d hd')) (by decide)
    have hJ : jn [] (o11.ps.map (·.1)) = Wd := by rw [hX11, jn_nil, hW]
    refine gu (c_joinV [] tk8 sz10 (stv o11.ps) o11.ps o11.n Wd rfl hj hJ) [11,11,11] [(y.1, fra [nt w.params k_numbers y.b1 (.ref y.nl), nt w.params k_records y.b2 (.ref y.R), nt w.params k_x tk1 (.int x t), nt w.params k_third tk4 (.int (Int.ofNat N) t4)] 4), (y.2, liO y.nl (i + 1)), (y.3, lst xs xn), ((y.1 + 1), cel (.ref y.pc)), (y.4, lst (pvs y.b) 0), (y.5, lst (rvs ++ [.ref r]) rn), (r, lst [.ref a, dv, .none] m), (a, lst avs k), (it, saX o11.i), (sz10, lst ([] ++ stv o11.ps) o11.n), ((sz10 + 1), dic [] 2)] sz11 tk11 [9] (hA.le (by decide)) D11 E11 (by generalize w = w'; revert w'; exact tw_fa (by kernel_rfl) (by kernel_rfl)) ⟨by decide, by kernel_rfl, rfl⟩ (fun _ => rfl) fun t12 h12 sz12 tk12 hX12 D12 E12 => ?_
    refine gu (c_append a (.str (S Wd) t12) avs k hva) [] [(y.1, fra [nt w.params k_numbers y.b1 (.ref y.nl), nt w.params k_records y.b2 (.ref y.R), nt w.params k_x tk1 (.int x t), nt w.params k_third tk4 (.int (Int.ofNat N) t4)] 4), (y.2, liO y.nl (i + 1)), (y.3, lst xs xn), ((y.1 + 1), cel (.ref y.pc)), (y.4, lst (pvs y.b) 0), (y.5, lst (rvs ++ [.ref r]) rn), (r, lst [.ref a, dv, .none] m), (a, lst avs k), (it, saX o11.i), (sz10, lst (stv o11.ps) o11.n), ((sz10 + 1), dic [] 2)] sz12 tk12 [7] (hA.le (by decide)) D12 E12 (by generalize w = w'; revert w'; exact tw_fa (by kernel_rfl) (by kernel_rfl)) ⟨by decide, by kernel_rfl, rfl⟩ (fun _ => rfl) fun r13 h13 sz13 tk13 hX13 D13 E13 => ?_
    exact gaT (IH (tk1, tk4, x, t, N, t4) t12) DD EE [] [0,1,2,3,4,5,6,7] hA (hA1.le (by decide)) D13 E13 (by generalize w = w'; revert w'; exact tw_fa (by kernel_rfl) (by kernel_rfl)) (by decide) (by kernel_rfl)
  · refine lcon_in rfl fun A hA hA1 h sz tk g d os DD EE => ?_
    have D := DD.left
    have E0 := Since.start h (reFs w.params y (liO y.nl i) xs xn (some (c1, c2, x0, tx, tt3, tt)) rvs rn r a m k dv avs)
    refine gu (c_lnx y.it y.nl xs xn i (.int x t) hx) [2] [(y.1, reF w.params y (some (c1, c2, x0, tx, tt3, tt))), (y.2, liO y.nl i), (y.3, lst xs xn), ((y.1 + 1), cel (.ref y.pc)), (y.4, lst (pvs y.b) 0), (y.5, lst (rvs ++ [.ref r]) rn), (r, lst [.ref a, dv, .none] m), (a, lst avs k)] sz tk [1,2] (hA.le (by decide)) D E0 (by kernel_rfl) ⟨by decide, by kernel_rfl, rfl⟩ (fun _ => rfl) fun r1 h1 sz1 tk1 hX1 D1 E1 => ?_
    refine gu (c_fdiv x 3 t (tk1 + 1) three three2) [1,1,0,0,1] [(y.1, fra [nt w.params k_numbers y.6 (.ref y.3), nt w.params k_records y.7 (.ref y.5), nt w.params k_x c1 (.int (x) t), nt w.params k_third c2 (.int (Int.ofNat tt3) tt)] 4), (y.2, liO y.nl (i + 1)), (y.3, lst xs xn), ((y.1 + 1), cel (.ref y.pc)), (y.4, lst (pvs y.b) 0), (y.5, lst (rvs ++ [.ref r]) rn), (r, lst [.ref a, dv, .none] m), (a, lst avs k)] sz1 (tk1 + 2) [] (hA.le (by decide)) D1 E1 (by kernel_rfl) ⟨by decide, by kernel_rfl, rfl⟩ (fun _ => rfl) fun t2 h2 sz2 tk2 hX2 D2 E2 => ?_
    refine gu (c_absN (Int.fdiv x 3) t2) [] [(y.1, fra [nt w.params k_numbers y.b1 (.ref y.nl), nt w.params k_records y.b2 (.ref y.R), nt w.params k_x c1 (.int x t), nt w.params k_third c2 (.int (Int.ofNat tt3) tt)] 4), (y.2, liO y.nl (i + 1)), (y.3, lst xs xn), ((y.1 + 1), cel (.ref y.pc)), (y.4, lst (pvs y.b) 0), (y.5, lst (rvs ++ [.ref r]) rn), (r, lst [.ref a, dv, .none] m), (a, lst avs k)] sz2 tk2 [] (hA.le (by decide)) D2 E2 (by kernel_rfl) ⟨by decide, by kernel_rfl, rfl⟩ (fun _ => rfl) fun t3 h3 sz3 tk3 hX3 D3 E3 => ?_
    refine gu (c_modR (Int.natAbs (Int.fdiv x 3)) 1000 N t3 tk3 thou hN) [] [(y.1, fra [nt w.params k_numbers y.b1 (.ref y.nl), nt w.params k_records y.b2 (.ref y.R), nt w.params k_x c1 (.int x t), nt w.params k_third c2 (.int (Int.ofNat tt3) tt)] 4), (y.2, liO y.nl (i + 1)), (y.3, lst xs xn), ((y.1 + 1), cel (.ref y.pc)), (y.4, lst (pvs y.b) 0), (y.5, lst (rvs ++ [.ref r]) rn), (r, lst [.ref a, dv, .none] m), (a, lst avs k)] sz3 (tk3 + 1) [] (hA.le (by decide)) D3 E3 (by kernel_rfl) ⟨by decide, by kernel_rfl, rfl⟩ (fun _ => rfl) fun t4 h4 sz4 tk4 hX4 D4 E4 => ?_
    refine gu (c_modE x 3 1 t (tk4 + 1) three hm) [1,1,1] [(y.1, fra [nt w.params k_numbers y.6 (.ref y.3), nt w.params k_records y.7 (.ref y.5), nt w.params k_x c1 (.int (x) t), nt w.params k_third c2 (.int (Int.ofNat N) t4)] 4), (y.2, liO y.nl (i + 1)), (y.3, lst xs xn), ((y.1 + 1), cel (.ref y.pc)), (y.4, lst (pvs y.b) 0), (y.5, lst (rvs ++ [.ref r]) rn), (r, lst [.ref a, dv, .none] m), (a, lst avs k)] sz4 (tk4 + 2) [] (hA.le (by decide)) D4 E4 (by kernel_rfl) ⟨by decide, by kernel_rfl, rfl⟩ (fun _ => rfl) fun t5 h5 sz5 tk5 hX5 D5 E5 => ?_
    refine gu (c_modE x 3 1 t (tk5 + 1) three hm) [0,0,1] [(y.1, fra [nt w.params k_numbers y.b1 (.ref y.nl), nt w.params k_records y.b2 (.ref y.R), nt w.params k_x c1 (.int x t), nt w.params k_third c2 (.int (Int.ofNat N) t4)] 4), (y.2, liO y.nl (i + 1)), (y.3, lst xs xn), ((y.1 + 1), cel (.ref y.pc)), (y.4, lst (pvs y.b) 0), (y.5, lst (rvs ++ [.ref r]) rn), (r, lst [.ref a, dv, .none] m), (a, lst avs k)] sz5 (tk5 + 2) [] (hA.le (by decide)) D5 E5 (by generalize w = w'; revert w'; exact tw_fa (by kernel_rfl) (by kernel_rfl)) ⟨by decide, by kernel_rfl, rfl⟩ (fun _ => rfl) fun t6 h6 sz6 tk6 hX6 D6 E6 => ?_
    refine gu (c_lgm y.R rvs (.ref r) rn (tk6 + 2) hv) [0,0,1,0,0,6,6,6] [(y.1, fra [nt w.params k_numbers y.b1 (.ref y.nl), nt w.params k_records y.b2 (.ref y.R), nt w.params k_x c1 (.int x t), nt w.params k_third c2 (.int (Int.ofNat N) t4)] 4), (y.2, liO y.nl (i + 1)), (y.3, lst xs xn), ((y.1 + 1), cel (.ref y.pc)), (y.4, lst (pvs y.b) 0), (y.5, lst (rvs ++ [.ref r]) rn), (r, lst [.ref a, dv, .none] m), (a, lst avs k)] sz6 (tk6 + 3) [5] (hA.le (by decide)) D6 E6 (by generalize w = w'; revert w'; exact tw_fa (by kernel_rfl) (by kernel_rfl)) ⟨by decide, by kernel_rfl, rfl⟩ (fun _ => rfl) fun t7 h7 sz7 tk7 hX7 D7 E7 => ?_
    refine gu (c_lget r [.ref a, dv, .none] (.ref a) m 0 tk7 rfl z_lt) [7,7,7] [(y.1, fra [nt w.params k_numbers y.b1 (.ref y.nl), nt w.params k_records y.b2 (.ref y.R), nt w.params k_x c1 (.int x t), nt w.params k_third c2 (.int (Int.ofNat N) t4)] 4), (y.2, liO y.nl (i + 1)), (y.3, lst xs xn), ((y.1 + 1), cel (.ref y.pc)), (y.4, lst (pvs y.b) 0), (y.5, lst (rvs ++ [.ref r]) rn), (r, lst [.ref a, dv, .none] m), (a, lst avs k)] sz7 (tk7 + 1) [6] (hA.le (by decide)) D7 E7 (by generalize w = w'; revert w'; exact tw_fa (by kernel_rfl) (by kernel_rfl)) ⟨by decide, by kernel_rfl, rfl⟩ (fun _ => rfl) fun t8 h8 sz8 tk8 hX8 D8 E8 => ?_
    refine gu (c_stri N (c :: l) hd hlt t4) [0,8,8,8,8,0,0,1] [(y.1, fra [nt w.params k_numbers y.b1 (.ref y.nl), nt w.params k_records y.b2 (.ref y.R), nt w.params k_x c1 (.int x t), nt w.params k_third c2 (.int (Int.ofNat N) t4)] 4), (y.2, liO y.nl (i + 1)), (y.3, lst xs xn), ((y.1 + 1), cel (.ref y.pc)), (y.4, lst (pvs y.b) 0), (y.5, lst (rvs ++ [.ref r]) rn), (r, lst [.ref a, dv, .none] m), (a, lst avs k)] sz8 (tk8 + 1) [] (hA.le (by decide)) D8 E8 (by generalize w = w'; revert w'; exact tw_fa (by kernel_rfl) (by kernel_rfl)) ⟨by decide, by kernel_rfl, rfl⟩ (fun _ => rfl) fun t9 h9 sz9 tk9 hX9 D9 E9 => ?_
    refine gu (c_sit (S (c :: l)) t9 hasc) [] [(y.1, fra [nt w.params k_numbers y.b1 (.ref y.nl), nt w.params k_records y.b2 (.ref y.R), nt w.params k_x c1 (.int x t), nt w.params k_third c2 (.int (Int.ofNat N) t4)] 4), (y.2, liO y.nl (i + 1)), (y.3, lst xs xn), ((y.1 + 1), cel (.ref y.pc)), (y.4, lst (pvs y.b) 0), (y.5, lst (rvs ++ [.ref r]) rn), (r, lst [.ref a, dv, .none] m), (a, lst avs k)] sz9 tk9 [] (hA.le (by decide)) D9 E9 (by generalize w = w'; revert w'; exact tw_fa (by kernel_rfl) (by kernel_rfl)) ⟨by decide, by kernel_rfl, rfl⟩ (fun _ => rfl) fun it h10 sz10 tk10 hX10 D10 E10 => ?_
    refine gu (LCon.con (re_ck w (sz10 + 1) y.L it sz10 y.pc y.b (S (c :: l)) t9 c l rfl hf hl)) [9] [(y.1, fra [nt w.params k_numbers y.b1 (.ref y.nl), nt w.params k_records y.b2 (.ref y.R), nt w.params k_x c1 (.int x t), nt w.params k_third c2 (.int (Int.ofNat N) t4)] 4), (y.2, liO y.nl (i + 1)), (y.3, lst xs xn), ((y.1 + 1), cel (.ref y.pc)), (y.4, lst (pvs y.b) 0), (y.5, lst (rvs ++ [.ref r]) rn), (r, lst [.ref a, dv, .none] m), (a, lst avs k), (it, saO (S (c :: l)) t9 0), (sz10, lst [] 0), ((sz10 + 1), dic [] 0)] (sz10 + 2) tk10 [10,8,9,3,4] (hA.le (by decide)) D10 E10 (by generalize w = w'; revert w'; exact tw_fa (by kernel_rfl) (by kernel_rfl)) ⟨by decide, by kernel_rfl, rfl⟩ (fun _ => rfl) fun o11 h11 sz11 tk11 hX11 D11 E11 => ?_
    have hj : tot ([] : List Nat).length (o11.ps.map (·.1)) ≤ 1000000 := by
      rw [hX11]
      refine Nat.le_trans (tot_le 0 _ fun x hx => ?_) (by rw [List.length_map, List.length_cons]; omega)
      obtain ⟨d, hd', rfl⟩ := List.mem_map.mp hx
      exact Nat.le_trans (pc_len (hf d hd')) (by decide)
    have hJ : jn [] (o11.ps.map (·.1)) = Wd := by rw [hX11, jn_nil, hW]
    refine gu (c_joinV [] tk8 sz10 (stv o11.ps) o11.ps o11.n Wd rfl hj hJ) [11,11,11] [(y.1, fra [nt w.params k_numbers y.b1 (.ref y.nl), nt w.params k_records y.b2 (.ref y.R), nt w.params k_x c1 (.int x t), nt w.params k_third c2 (.int (Int.ofNat N) t4)] 4), (y.2, liO y.nl (i + 1)), (y.3, lst xs xn), ((y.1 + 1), cel (.ref y.pc)), (y.4, lst (pvs y.b) 0), (y.5, lst (rvs ++ [.ref r]) rn), (r, lst [.ref a, dv, .none] m), (a, lst avs k), (it, saX o11.i), (sz10, lst ([] ++ stv o11.ps) o11.n), ((sz10 + 1), dic [] 2)] sz11 tk11 [9] (hA.le (by decide)) D11 E11 (by generalize w = w'; revert w'; exact tw_fa (by kernel_rfl) (by kernel_rfl)) ⟨by decide, by kernel_rfl, rfl⟩ (fun _ => rfl) fun t12 h12 sz12 tk12 hX12 D12 E12 => ?_
    refine gu (c_append a (.str (S Wd) t12) avs k hva) [] [(y.1, fra [nt w.params k_numbers y.b1 (.ref y.nl), nt w.params k_records y.b2 (.ref y.R), nt w.params k_x c1 (.int x t), nt w.params k_third c2 (.int (Int.ofNat N) t4)] 4), (y.2, liO y.nl (i + 1)), (y.3, lst xs xn), ((y.1 + 1), cel (.ref y.pc)), (y.4, lst (pvs y.b) 0), (y.5, lst (rvs ++ [.ref r]) rn), (r, lst [.ref a, dv, .none] m), (a, lst avs k), (it, saX o11.i), (sz10, lst (stv o11.ps) o11.n), ((sz10 + 1), dic [] 2)] sz12 tk12 [7] (hA.le (by decide)) D12 E12 (by generalize w = w'; revert w'; exact tw_fa (by kernel_rfl) (by kernel_rfl)) ⟨by decide, by kernel_rfl, rfl⟩ (fun _ => rfl) fun r13 h13 sz13 tk13 hX13 D13 E13 => ?_
    exact gaT (IH (c1, c2, x, t, N, t4) t12) DD EE [] [0,1,2,3,4,5,6,7] hA (hA1.le (by decide)) D13 E13 (by generalize w = w'; revert w'; exact tw_fa (by kernel_rfl) (by kernel_rfl)) (by decide) (by kernel_rfl)
theorem re_t2 (w : World) (y : RX) (xs : List Value) (xn i : Nat) (x : Int) (t : Tok) (hx : xs[i]? = some (.int x t)) (hm : x.fmod 3 = 2) (N : Nat) (hN : (x.fdiv 3).natAbs % 1000 = N) (o : Option (Tok × Tok × Int × Tok × Nat × Tok)) (rvs : List Value) (rn : Nat) (r a : Addr) (m k : Nat) (dv : Value) (avs : List Value) (hv : rvs.length < 1000000) (T : Facts) (β : Type) (fs2 : β → Facts) (X : β → Prop)
    (IH : ∀ (o' : Tok × Tok × Int × Tok × Nat × Tok) (r' : Addr) (tN : Tok), LCon pw w (G w.params) 20 (reL y.L y.it) (reFs w.params y (liO y.nl (i + 1)) xs xn (some o') rvs rn r' a 0 k (.int N tN) avs ++ T) (fun _ => .ok .next) fs2 X) :
    LCon pw w (G w.params) 20 (reL y.L y.it) (reFs w.params y (liO y.nl i) xs xn o rvs rn r a m k dv avs ++ T) (fun _ => .ok .next) fs2 X := by
  rcases o with _ | ⟨c1, c2, x0, tx, tt3, tt⟩
  · refine lcon_in rfl fun A hA hA1 h sz tk g d os DD EE => ?_
    have D := DD.left
    have E0 := Since.start h (reFs w.params y (liO y.nl i) xs xn none rvs rn r a m k dv avs)
    refine gu (c_lnx y.it y.nl xs xn i (.int x t) hx) [2] [(y.1, reF w.params y none), (y.2, liO y.nl i), (y.3, lst xs xn), ((y.1 + 1), cel (.ref y.pc)), (y.4, lst (pvs y.b) 0), (y.5, lst (rvs ++ [.ref r]) rn), (r, lst [.ref a, dv, .none] m), (a, lst avs k)] sz tk [1,2] (hA.le (by decide)) D E0 (by kernel_rfl) ⟨by decide, by kernel_rfl, rfl⟩ (fun _ => rfl) fun r1 h1 sz1 tk1 hX1 D1 E1 => ?_
    refine gu (c_fdiv x 3 t (tk1 + 1) three three2) [1,1,0,0,1] [(y.1, fra [nt w.params k_numbers y.6 (.ref y.3), nt w.params k_records y.7 (.ref y.5), nt w.params k_x tk1 (.int (x) t)] 3), (y.2, liO y.nl (i + 1)), (y.3, lst xs xn), ((y.1 + 1), cel (.ref y.pc)), (y.4, lst (pvs y.b) 0), (y.5, lst (rvs ++ [.ref r]) rn), (r, lst [.ref a, dv, .none] m), (a, lst avs k)] sz1 (tk1 + 2) [] (hA.le (by decide)) D1 E1 (by kernel_rfl) ⟨by decide, by kernel_rfl, rfl⟩ (fun _ => rfl) fun t2 h2 sz2 tk2 hX2 D2 E2 => ?_
    refine gu (c_absN (Int.fdiv x 3) t2) [] [(y.1, fra [nt w.params k_numbers y.b1 (.ref y.nl), nt w.params k_records y.b2 (.ref y.R), nt w.params k_x tk1 (.int x t)] 3), (y.2, liO y.nl (i + 1)), (y.3, lst xs xn), ((y.1 + 1), cel (.ref y.pc)), (y.4, lst (pvs y.b) 0), (y.5, lst (rvs ++ [.ref r]) rn), (r, lst [.ref a, dv, .none] m), (a, lst avs k)] sz2 tk2 [] (hA.le (by decide)) D2 E2 (by kernel_rfl) ⟨by decide, by kernel_rfl, rfl⟩ (fun _ => rfl) fun t3 h3 sz3 tk3 hX3 D3 E3 => ?_
    refine gu (c_modR (Int.natAbs (Int.fdiv x 3)) 1000 N t3 tk3 thou hN) [] [(y.1, fra [nt w.params k_numbers y.b1 (.ref y.nl), nt w.params k_records y.b2 (.ref y.R), nt w.params k_x tk1 (.int x t)] 3), (y.2, liO y.nl (i + 1)), (y.3, lst xs xn), ((y.1 + 1), cel (.ref y.pc)), (y.4, lst (pvs y.b) 0), (y.5, lst (rvs ++ [.ref r]) rn), (r, lst [.ref a, dv, .none] m), (a, lst avs k)] sz3 (tk3 + 1) [] (hA.le (by decide)) D3 E3 (by kernel_rfl) ⟨by decide, by kernel_rfl, rfl⟩ (fun _ => rfl) fun t4 h4 sz4 tk4 hX4 D4 E4 => ?_
    refine gu (c_modE x 3 2 t (tk4 + 1) three hm) [1,1,1] [(y.1, fra [nt w.params k_numbers y.6 (.ref y.3), nt w.params k_records y.7 (.ref y.5), nt w.params k_x tk1 (.int (x) t), nt w.params k_third tk4 (.int (Int.ofNat N) t4)] 4), (y.2, liO y.nl (i + 1)), (y.3, lst xs xn), ((y.1 + 1), cel (.ref y.pc)), (y.4, lst (pvs y.b) 0), (y.5, lst (rvs ++ [.ref r]) rn), (r, lst [.ref a, dv, .none] m), (a, lst avs k)] sz4 (tk4 + 2) [] (hA.le (by decide)) D4 E4 (by kernel_rfl) ⟨by decide, by kernel_rfl, rfl⟩ (fun _ => rfl) fun t5 h5 sz5 tk5 hX5 D5 E5 => ?_
    refine gu (c_modE x 3 2 t (tk5 + 1) three hm) [0,0,1] [(y.1, fra [nt w.params k_numbers y.b1 (.ref y.nl), nt w.params k_records y.b2 (.ref y.R), nt w.params k_x tk1 (.int x t), nt w.params k_third tk4 (.int (Int.ofNat N) t4)] 4), (y.2, liO y.nl (i + 1)), (y.3, lst xs xn), ((y.1 + 1), cel (.ref y.pc)), (y.4, lst (pvs y.b) 0), (y.5, lst (rvs ++ [.ref r]) rn), (r, lst [.ref a, dv, .none] m), (a, lst avs k)] sz5 (tk5 + 2) [] (hA.le (by decide)) D5 E5 (by generalize w = w'; revert w'; exact tw_fa (by kernel_rfl) (by kernel_rfl)) ⟨by decide, by kernel_rfl, rfl⟩ (fun _ => rfl) fun t6 h6 sz6 tk6 hX6 D6 E6 => ?_
    refine gu (c_lgm y.R rvs (.ref r) rn (tk6 + 2) hv) [0,0,1,0,0,6,6,6] [(y.1, fra [nt w.params k_numbers y.b1 (.ref y.nl), nt w.params k_records y.b2 (.ref y.R), nt w.params k_x tk1 (.int x t), nt w.params k_third tk4 (.int (Int.ofNat N) t4)] 4), (y.2, liO y.nl (i + 1)), (y.3, lst xs xn), ((y.1 + 1), cel (.ref y.pc)), (y.4, lst (pvs y.b) 0), (y.5, lst (rvs ++ [.ref r]) rn), (r, lst [.ref a, dv, .none] m), (a, lst avs k)] sz6 (tk6 + 3) [5] (hA.le (by decide)) D6 E6 (by generalize w = w'; revert w'; exact tw_fa (by kernel_rfl) (by kernel_rfl)) ⟨by decide, by kernel_rfl, rfl⟩ (fun _ => rfl) fun t7 h7 sz7 tk7 hX7 D7 E7 => ?_
    refine gu (c_lget r [.ref a, dv, .none] (.ref a) m 0 tk7 rfl z_lt) [7,7,7] [(y.1, fra [nt w.params k_numbers y.b1 (.ref y.nl), nt w.params k_records y.b2 (.ref y.R), nt w.params k_x tk1 (.int x t), nt w.params k_third tk4 (.int (Int.ofNat N) t4)] 4), (y.2, liO y.nl (i + 1)), (y.3, lst xs xn), ((y.1 + 1), cel (.ref y.pc)), (y.4, lst (pvs y.b) 0), (y.5, lst (rvs ++ [.ref r]) rn), (r, lst [.ref a, dv, .none] m), (a, lst avs k)] sz7 (tk7 + 1) [6] (hA.le (by decide)) D7 E7 (by generalize w = w'; revert w'; exact tw_fa (by kernel_rfl) (by kernel_rfl)) ⟨by decide, by kernel_rfl, rfl⟩ (fun _ => rfl) fun t8 h8 sz8 tk8 hX8 D8 E8 => ?_
    refine gu (c_lgm y.R rvs (.ref r) rn (tk8 + 1) hv) [0,1,1,0,0,6,6,6] [(y.1, fra [nt w.params k_numbers y.b1 (.ref y.nl), nt w.params k_records y.b2 (.ref y.R), nt w.params k_x tk1 (.int x t), nt w.params k_third tk4 (.int (Int.ofNat N) t4)] 4), (y.2, liO y.nl (i + 1)), (y.3, lst xs xn), ((y.1 + 1), cel (.ref y.pc)), (y.4, lst (pvs y.b) 0), (y.5, lst (rvs ++ [.ref r]) rn), (r, lst [.ref a, dv, .none] m), (a, lst avs k)] sz8 (tk8 + 2) [5] (hA.le (by decide)) D8 E8 (by generalize w = w'; revert w'; exact tw_fa (by kernel_rfl) (by kernel_rfl)) ⟨by decide, by kernel_rfl, rfl⟩ (fun _ => rfl) fun t9 h9 sz9 tk9 hX9 D9 E9 => ?_
    refine gu (c_lget r [.ref a, dv, .none] .none m 2 tk9 rfl two_lt) [7,7,7] [(y.1, fra [nt w.params k_numbers y.b1 (.ref y.nl), nt w.params k_records y.b2 (.ref y.R), nt w.params k_x tk1 (.int x t), nt w.params k_third tk4 (.int (Int.ofNat N) t4)] 4), (y.2, liO y.nl (i + 1)), (y.3, lst xs xn), ((y.1 + 1), cel (.ref y.pc)), (y.4, lst (pvs y.b) 0), (y.5, lst (rvs ++ [.ref r]) rn), (r, lst [.ref a, dv, .none] m), (a, lst avs k)] sz9 (tk9 + 1) [6] (hA.le (by decide)) D9 E9 (by generalize w = w'; revert w'; exact tw_fa (by kernel_rfl) (by kernel_rfl)) ⟨by decide, by kernel_rfl, rfl⟩ (fun _ => rfl) fun t10 h10 sz10 tk10 hX10 D10 E10 => ?_
    refine gu (c_lsm y.R rvs (.ref r) (.ref sz10) rn (tk10 + 1) hv) [0,1,0,0,6,6] [(y.1, fra [nt w.params k_numbers y.b1 (.ref y.nl), nt w.params k_records y.b2 (.ref y.R), nt w.params k_x tk1 (.int x t), nt w.params k_third tk4 (.int (Int.ofNat N) t4)] 4), (y.2, liO y.nl (i + 1)), (y.3, lst xs xn), ((y.1 + 1), cel (.ref y.pc)), (y.4, lst (pvs y.b) 0), (y.5, lst (rvs ++ [.ref r]) rn), (r, lst [.ref a, dv, .none] m), (a, lst avs k), (sz10, lst [(.ref a), (.int (Int.ofNat N) t4), .none] 0)] (sz10 + 1) (tk10 + 2) [5] (hA.le (by decide)) D10 E10 (by generalize w = w'; revert w'; exact tw_fa (by kernel_rfl) (by kernel_rfl)) ⟨by decide, by kernel_rfl, rfl⟩ (fun _ => rfl) fun t11 h11 sz11 tk11 hX11 D11 E11 => ?_
    exact gaT (IH (tk1, tk4, x, t, N, t4) sz10 t4) DD EE [] [0,1,2,3,4,5,8,7] hA (hA1.le (by decide)) D11 E11 (by generalize w = w'; revert w'; exact tw_fa (by kernel_rfl) (by kernel_rfl)) (by decide) (by kernel_rfl)
  · refine lcon_in rfl fun A hA hA1 h sz tk g d os DD EE => ?_
    have D := DD.left
    have E0 := Since.start h (reFs w.params y (liO y.nl i) xs xn (some (c1, c2, x0, tx, tt3, tt)) rvs rn r a m k dv avs)
    refine gu (c_lnx y.it y.nl xs xn i (.int x t) hx) [2] [(y.1, reF w.params y (some (c1, c2, x0, tx, tt3, tt))), (y.2, liO y.nl i), (y.3, lst xs xn), ((y.1 + 1), cel (.ref y.pc)), (y.4, lst (pvs y.b) 0), (y.5, lst (rvs ++ [.ref r]) rn), (r, lst [.ref a, dv, .none] m), (a, lst avs k)] sz tk [1,2] (hA.le (by decide)) D E0 (by kernel_rfl) ⟨by decide, by kernel_rfl, rfl⟩ (fun _ => rfl) fun r1 h1 sz1 tk1 hX1 D1 E1 => ?_
    refine gu (c_fdiv x 3 t (tk1 + 1) three three2) [1,1,0,0,1] [(y.1, fra [nt w.params k_numbers y.6 (.ref y.3), nt w.params k_records y.7 (.ref y.5), nt w.params k_x c1 (.int (x) t), nt w.params k_third c2 (.int (Int.ofNat tt3) tt)] 4), (y.2, liO y.nl (i + 1)), (y.3, lst xs xn), ((y.1 + 1), cel (.ref y.pc)), (y.4, lst (pvs y.b) 0), (y.5, lst (rvs ++ [.ref r]) rn), (r, lst [.ref a, dv, .none] m), (a, lst avs k)] sz1 (tk1 + 2) [] (hA.le (by decide)) D1 E1 (by kernel_rfl) ⟨by decide, by kernel_rfl, rfl⟩ (fun _ => rfl) fun t2 h2 sz2 tk2 hX2 D2 E2 => ?_
    refine gu (c_absN (Int.fdiv x 3) t2) [] [(y.1, fra [nt w.params k_numbers y.b1 (.ref y.nl), nt w.params k_records y.b2 (.ref y.R), nt w.params k_x c1 (.int x t), nt w.params k_third c2 (.int (Int.ofNat tt3) tt)] 4), (y.2, liO y.nl (i + 1)), (y.3, lst xs xn), ((y.1 + 1), cel (.ref y.pc)), (y.4, lst (pvs y.b) 0), (y.5, lst (rvs ++ [.ref r]) rn), (r, lst [.ref a, dv, .none] m), (a, lst avs k)] sz2 tk2 [] (hA.le (by decide)) D2 E2 (by kernel_rfl) ⟨by decide, by kernel_rfl, rfl⟩ (fun _ => rfl) fun t3 h3 sz3 tk3 hX3 D3 E3 => ?_
    refine gu (c_modR (Int.natAbs (Int.fdiv x 3)) 1000 N t3 tk3 thou hN) [] [(y.1, fra [nt w.params k_numbers y.b1 (.ref y.nl), nt w.params k_records y.b2 (.ref y.R), nt w.params k_x c1 (.int x t), nt w.params k_third c2 (.int (Int.ofNat tt3) tt)] 4), (y.2, liO y.nl (i + 1)), (y.3, lst xs xn), ((y.1 + 1), cel (.ref y.pc)), (y.4, lst (pvs y.b) 0), (y.5, lst (rvs ++ [.ref r]) rn), (r, lst [.ref a, dv, .none] m), (a, lst avs k)] sz3 (tk3 + 1) [] (hA.le (by decide)) D3 E3 (by kernel_rfl) ⟨by decide, by kernel_rfl, rfl⟩ (fun _ => rfl) fun t4 h4 sz4 tk4 hX4 D4 E4 => ?_
    refine gu (c_modE x 3 2 t (tk4 + 1) three hm) [1,1,1] [(y.1, fra [nt w.params k_numbers y.6 (.ref y.3), nt w.params k_records y.7 (.ref y.5), nt w.params k_x c1 (.int (x) t), nt w.params k_third c2 (.int (Int.ofNat N) t4)] 4), (y.2, liO y.nl (i + 1)), (y.3, lst xs xn), ((y.1 + 1), cel (.ref y.pc)), (y.4, lst (pvs y.b) 0), (y.5, lst (rvs ++ [.ref r]) rn), (r, lst [.ref a, dv, .none] m), (a, lst avs k)] sz4 (tk4 + 2) [] (hA.le (by decide)) D4 E4 (by kernel_rfl) ⟨by decide, by kernel_rfl, rfl⟩ (fun _ => rfl) fun t5 h5 sz5 tk5 hX5 D5 E5 => ?_
    refine gu (c_modE x 3 2 t (tk5 + 1) three hm) [0,0,1] [(y.1, fra [nt w.params k_numbers y.b1 (.ref y.nl), nt w.params k_records y.b2 (.ref y.R), nt w.params k_x c1 (.int x t), nt w.params k_third c2 (.int (Int.ofNat N) t4)] 4), (y.2, liO y.nl (i + 1)), (y.3, lst xs xn), ((y.1 + 1), cel (.ref y.pc)), (y.4, lst (pvs y.b) 0), (y.5, lst (rvs ++ [.ref r]) rn), (r, lst [.ref a, dv, .none] m), (a, lst avs k)] sz5 (tk5 + 2) [] (hA.le (by decide)) D5 E5 (by generalize w = w'; revert w'; exact tw_fa (by kernel_rfl) (by kernel_rfl)) ⟨by decide, by kernel_rfl, rfl⟩ (fun _ => rfl) fun t6 h6 sz6 tk6 hX6 D6 E6 => ?_
    refine gu (c_lgm y.R rvs (.ref r) rn (tk6 + 2) hv) [0,0,1,0,0,6,6,6] [(y.1, fra [nt w.params k_numbers y.b1 (.ref y.nl), nt w.params k_records y.b2 (.ref y.R), nt w.params k_x c1 (.int x t), nt w.params k_third c2 (.int (Int.ofNat N) t4)] 4), (y.2, liO y.nl (i + 1)), (y.3, lst xs xn), ((y.1 + 1), cel (.ref y.pc)), (y.4, lst (pvs y.b) 0), (y.5, lst (rvs ++ [.ref r]) rn), (r, lst [.ref a, dv, .none] m), (a, lst avs k)] sz6 (tk6 + 3) [5] (hA.le (by decide)) D6 E6 (by generalize w = w'; revert w'; exact tw_fa (by kernel_rfl) (by kernel_rfl)) ⟨by decide, by kernel_rfl, rfl⟩ (fun _ => rfl) fun t7 h7 sz7 tk7 hX7 D7 E7 => ?_
    refine gu (c_lget r [.ref a, dv, .none] (.ref a) m 0 tk7 rfl z_lt) [7,7,7] [(y.1, fra [nt w.params k_numbers y.b1 (.ref y.nl), nt w.params k_records y.b2 (.ref y.R), nt w.params k_x c1 (.int x t), nt w.params k_third c2 (.int (Int.ofNat N) t4)] 4), (y.2, liO y.nl (i + 1)), (y.3, lst xs xn), ((y.1 + 1), cel (.ref y.pc)), (y.4, lst (pvs y.b) 0), (y.5, lst (rvs ++ [.ref r]) rn), (r, lst [.ref a, dv, .none] m), (a, lst avs k)] sz7 (tk7 + 1) [6] (hA.le (by decide)) D7 E7 (by generalize w = w'; revert w'; exact tw_fa (by kernel_rfl) (by kernel_rfl)) ⟨by decide, by kernel_rfl, rfl⟩ (fun _ => rfl) fun t8 h8 sz8 tk8 hX8 D8 E8 => ?_
    refine gu (c_lgm y.R rvs (.ref r) rn (tk8 + 1) hv) [0,1,1,0,0,6,6,6] [(y.1, fra [nt w.params k_numbers y.b1 (.ref y.nl), nt w.params k_records y.b2 (.ref y.R), nt w.params k_x c1 (.int x t), nt w.params k_third c2 (.int (Int.ofNat N) t4)] 4), (y.2, liO y.nl (i + 1)), (y.3, lst xs xn), ((y.1 + 1), cel (.ref y.pc)), (y.4, lst (pvs y.b) 0), (y.5, lst (rvs ++ [.ref r]) rn), (r, lst [.ref a, dv, .none] m), (a, lst avs k)] sz8 (tk8 + 2) [5] (hA.le (by decide)) D8 E8 (by generalize w = w'; revert w'; exact tw_fa (by kernel_rfl) (by kernel_rfl)) ⟨by decide, by kernel_rfl, rfl⟩ (fun _ => rfl) fun t9 h9 sz9 tk9 hX9 D9 E9 => ?_
    refine gu (c_lget r [.ref a, dv, .none] .none m 2 tk9 rfl two_lt) [7,7,7] [(y.1, fra [nt w.params k_numbers y.b1 (.ref y.nl), nt w.params k_records y.b2 (.ref y.R), nt w.params k_x c1 (.int x t), nt w.params k_third c2 (.int (Int.ofNat N) t4)] 4), (y.2, liO y.nl (i + 1)), (y.3, lst xs xn), ((y.1 + 1), cel (.ref y.pc)), (y.4, lst (pvs y.b) 0), (y.5, lst (rvs ++ [.ref r]) rn), (r, lst [.ref a, dv, .none] m), (a, lst avs k)] sz9 (tk9 + 1) [6] (hA.le (by decide)) D9 E9 (by generalize w = w'; revert w'; exact tw_fa (by kernel_rfl) (by kernel_rfl)) ⟨by decide, by kernel_rfl, rfl⟩ (fun _ => rfl) fun t10 h10 sz10 tk10 hX10 D10 E10 => ?_
    refine gu (c_lsm y.R rvs (.ref r) (.ref sz10) rn (tk10 + 1) hv) [0,1,0,0,6,6] [(y.1, fra [nt w.params k_numbers y.b1 (.ref y.nl), nt w.params k_records y.b2 (.ref y.R), nt w.params k_x c1 (.int x t), nt w.params k_third c2 (.int (Int.ofNat N) t4)] 4), (y.2, liO y.nl (i + 1)), (y.3, lst xs xn), ((y.1 + 1), cel (.ref y.pc)), (y.4, lst (pvs y.b) 0), (y.5, lst (rvs ++ [.ref r]) rn), (r, lst [.ref a, dv, .none] m), (a, lst avs k), (sz10, lst [(.ref a), (.int (Int.ofNat N) t4), .none] 0)] (sz10 + 1) (tk10 + 2) [5] (hA.le (by decide)) D10 E10 (by generalize w = w'; revert w'; exact tw_fa (by kernel_rfl) (by kernel_rfl)) ⟨by decide, by kernel_rfl, rfl⟩ (fun _ => rfl) fun t11 h11 sz11 tk11 hX11 D11 E11 => ?_
    exact gaT (IH (c1, c2, x, t, N, t4) sz10 t4) DD EE [] [0,1,2,3,4,5,8,7] hA (hA1.le (by decide)) D11 E11 (by generalize w = w'; revert w'; exact tw_fa (by kernel_rfl) (by kernel_rfl)) (by decide) (by kernel_rfl)
theorem re_stop (w : World) (y : RX) (xs : List Value) (xn i : Nat) (hx : xs[i]? = none) (o : Option (Tok × Tok × Int × Tok × Nat × Tok)) (rvs : List Value) (rn : Nat) (r a : Addr) (m k : Nat) (dv : Value) (avs : List Value) :
    LCon pw w (G w.params) 20 (reL y.L y.it) (reFs w.params y (liO y.nl i) xs xn o rvs rn r a m k dv avs) (fun _ : Unit => .ok .next) (fun _ => reFs w.params y (liX i) xs xn o rvs rn r a m k dv avs) (fun _ => True) := by
  rcases o with _ | ⟨c1, c2, x0, tx, tt3, tt⟩
  · refine lcon_in rfl fun A hA hA1 h sz tk g d os D E0 => ?_
    refine gu (c_lnE y.it y.nl xs xn i hx) [2] [(y.1, reF w.params y none), (y.2, liO y.nl i), (y.3, lst xs xn), ((y.1 + 1), cel (.ref y.pc)), (y.4, lst (pvs y.b) 0), (y.5, lst (rvs ++ [.ref r]) rn), (r, lst [.ref a, dv, .none] m), (a, lst avs k)] sz tk [1,2] (hA.le (by decide)) D E0 (by kernel_rfl) ⟨by decide, by kernel_rfl, rfl⟩ (fun _ => rfl) fun y1 h1 sz1 tk1 hX1 D1 E1 => ?_
    refine gt (Code.block [] (reE y.L)) [10] [(y.1, reF w.params y none), (y.2, liX i), (y.3, lst xs xn), ((y.1 + 1), cel (.ref y.pc)), (y.4, lst (pvs y.b) 0), (y.5, lst (rvs ++ [.ref r]) rn), (r, lst [.ref a, dv, .none] m), (a, lst avs k), (y1.1, tup []), (y1.2, excO y1.fst)] sz1 tk1 hA hA1 D1 E1 (by kernel_rfl) (by kernel_rfl) (by kernel_rfl) fun h2 hA2 D2 E2 => ?_
    exact gf (()) [] [0,1,2,3,4,5,6,7] hA2 D2 E2 (by kernel_rfl) (by decide) rfl (trivial)
  · refine lcon_in rfl fun A hA hA1 h sz tk g d os D E0 => ?_
    refine gu (c_lnE y.it y.nl xs xn i hx) [2] [(y.1, reF w.params y (some (c1, c2, x0, tx, tt3, tt))), (y.2, liO y.nl i), (y.3, lst xs xn), ((y.1 + 1), cel (.ref y.pc)), (y.4, lst (pvs y.b) 0), (y.5, lst (rvs ++ [.ref r]) rn), (r, lst [.ref a, dv, .none] m), (a, lst avs k)] sz tk [1,2] (hA.le (by decide)) D E0 (by kernel_rfl) ⟨by decide, by kernel_rfl, rfl⟩ (fun _ => rfl) fun y1 h1 sz1 tk1 hX1 D1 E1 => ?_
    refine gt (Code.block [] (reE y.L)) [10] [(y.1, reF w.params y (some (c1, c2, x0, tx, tt3, tt))), (y.2, liX i), (y.3, lst xs xn), ((y.1 + 1), cel (.ref y.pc)), (y.4, lst (pvs y.b) 0), (y.5, lst (rvs ++ [.ref r]) rn), (r, lst [.ref a, dv, .none] m), (a, lst avs k), (y1.1, tup []), (y1.2, excO y1.fst)] sz1 tk1 hA hA1 D1 E1 (by kernel_rfl) (by kernel_rfl) (by kernel_rfl) fun h2 hA2 D2 E2 => ?_
    exact gf (()) [] [0,1,2,3,4,5,6,7] hA2 D2 E2 (by kernel_rfl) (by decide) rfl (trivial)
end Mine
end
set_option maxHeartbeats 1000000
noncomputable section
namespace Mine
/-! ## the loop of _law_records -/
noncomputable def refs (r0 : Addr) (l : List RO) : List Value := .ref r0 :: l.map fun o => .ref o.r
theorem refs_app (r0 : Addr) (l : List RO) (o : RO) : refs r0 (l ++ [o]) = refs r0 l ++ [.ref o.r] := by
  unfold refs
  rw [List.map_append]
  rfl
theorem refs_len (r0 : Addr) (l : List RO) : (refs r0 l).length = l.length + 1 := by
  unfold refs
  simp
structure okR (o : RO) : Prop where
  ok : ∀ q ∈ o.ps, okP q ∧ ∀ c ∈ q.1, okc c
  dl : ∀ N t, o.dl = some (N, t) → N < 1000
  len : o.ps.length ≤ 100
structure ROut where
  ros : List RO
  o : RO
  fo : Option (Tok × Tok × Int × Tok × Nat × Tok)
  rn : Nat
noncomputable def reRs (P : Params) (y : RX) (ito : Obj) (xs : List Value) (xn : Nat) (r0 : Addr) (fo : Option (Tok × Tok × Int × Tok × Nat × Tok)) (ros : List RO) (o : RO) (rn : Nat) : Facts :=
  reFs P y ito xs xn fo (refs r0 ros) rn o.r o.a o.m o.k (dvOf o.dl) (stv o.ps)
theorem perm_a (A F T : Facts) : ((A ++ F) ++ T).Perm (A ++ (T ++ F)) := by
  rw [List.append_assoc]
  exact List.Perm.append_left A List.perm_append_comm
theorem ROs_app (l : List RO) (o : RO) : ROs (l ++ [o]) = ROs l ++ o.fs := by
  unfold ROs
  rw [List.flatMap_append]
  simp
theorem re_loop (w : World) (y : RX) (r0 : Addr) (xs : List Value) (xn : Nat) : ∀ (zs : List (Int × Tok)) (i : Nat) (fo : Option (Tok × Tok × Int × Tok × Nat × Tok)) (ros : List RO) (o : RO) (rn : Nat),
    xs.drop i = zs.map (fun z => Value.int z.1 z.2) → i + zs.length = xs.length → (∀ q ∈ ros, okR q) → okR o → ros.length + zs.length ≤ 1000 → o.ps.length + zs.length ≤ 100 → zs.length ≤ 100 →
    LCon pw w (G w.params) 20 (reL y.L y.it) (reRs w.params y (liO y.nl i) xs xn r0 fo ros o rn ++ ROs ros) (fun _ : ROut => .ok .next) (fun r => reRs w.params y (liX xs.length) xs xn r0 r.fo r.ros r.o r.rn ++ ROs r.ros)
      (fun r => (r.ros.map RO.rc, r.o.rc) = zs.foldl (fun s z => stepR s z.1) (ros.map RO.rc, o.rc) ∧ (∀ q ∈ r.ros, okR q) ∧ okR r.o ∧ r.ros.length ≤ ros.length + zs.length)
  | [], i, fo, ros, o, rn, hx, hi, hr, ho, hl1, hl2, hl3 => by
    have he : i = xs.length := by rw [List.length_nil] at hi; omega
    subst he
    have hn : xs[xs.length]? = none := by simp
    exact ((re_stop w y xs xn _ hn fo (refs r0 ros) rn o.r o.a o.m o.k (dvOf o.dl) (stv o.ps)).frame (ROs ros)).map (fun _ => ⟨ros, o, fo, rn⟩) fun _ _ => ⟨rfl, rfl, rfl, hr, ho, Nat.le_refl _⟩
  | (x, t) :: zs, i, fo, ros, o, rn, hx, hi, hr, ho, hl1, hl2, hl3 => by
    rw [List.length_cons] at hi hl1 hl2 hl3
    have hx1 : xs[i]? = some (.int x t) := by
      have := congrArg (·[0]?) hx
      simpa using this
    have hx2 : xs.drop (i + 1) = zs.map (fun z => Value.int z.1 z.2) := by
      rw [← List.drop_drop, hx]
      rfl
    have h3 : x.fmod 3 = 0 ∨ x.fmod 3 = 1 ∨ x.fmod 3 = 2 := by
      rw [Int.fmod_eq_emod_of_nonneg _ (by omega)]
      omega
    have hN := third_lt x
    rw [List.foldl_cons]
    rcases h3 with h3 | h3 | h3
    · have es : stepR (ros.map RO.rc, o.rc) x = ((ros ++ [o]).map RO.rc, ⟨[], none⟩) := by
        unfold stepR
        rw [if_pos h3, List.map_append]
        rfl
      rw [es]
      refine re_t0 w y xs xn i x t hx1 h3 _ rfl fo (refs r0 ros) rn o.r o.a o.m o.k (dvOf o.dl) (stv o.ps) (by rw [List.length_append, refs_len]; show _ + 1 + 1 ≤ 2 ^ 24; omega) (ROs ros) _ _ _ fun o' r' a' => ?_
      have K := re_loop w y r0 xs xn zs (i + 1) (some o') (ros ++ [o]) ⟨r', a', 0, 0, [], none⟩ (rn + 1) hx2 (by omega) (fun q hq => by
        rcases List.mem_append.mp hq with hq | hq
        · exact hr q hq
        · rw [List.mem_singleton.mp hq]; exact ho) ⟨fun q hq => (nomatch hq), fun N t e => (nomatch e), Nat.zero_le _⟩ (by rw [List.length_append, List.length_singleton]; omega) (by show 0 + zs.length ≤ 100; omega) (by omega)
      rw [ROs_app] at K
      unfold reRs at K ⊢
      rw [refs_app] at K
      refine ((K.perm1 (perm_a _ o.fs (ROs ros))).map id fun r hr' => ⟨rfl, rfl, hr'.1, hr'.2.1, hr'.2.2.1, ?_⟩)
      have := hr'.2.2.2
      rw [List.length_append, List.length_singleton] at this
      show r.ros.length ≤ ros.length + (zs.length + 1)
      omega
    · have hd0 := dig_ne (third x)
      have hdl := dig_len _ hN
      have hdo := dig_ok (third x)
      have hda := dig_asc (third x)
      have es : stepR (ros.map RO.rc, o.rc) x = (ros.map RO.rc, ⟨o.rc.us ++ [word (third x)], o.rc.dl⟩) := by
        unfold stepR
        rw [if_neg (by omega), if_pos h3]
      rw [es]
      cases hdg : dig (third x) with
      | nil => exact absurd hdg hd0
      | cons c l =>
        rw [hdg] at hdl hdo hda
        have hl2' : l.length ≤ 2 := Nat.le_of_succ_le_succ hdl
        refine re_t1 w y xs xn i x t hx1 h3 (third x) rfl hN c l hdg hdo hda (by show _ ≤ 2 ^ 24; omega) hl2' (word (third x)) (by unfold word; rw [hdg]) fo (refs r0 ros) rn o.r o.a o.m o.k (dvOf o.dl) (stv o.ps) (by rw [refs_len]; omega) (by rw [stv_len]; show _ ≤ 2 ^ 24; omega) (ROs ros) _ _ _ fun o' tw => ?_
        have K := re_loop w y r0 xs xn zs (i + 1) (some o') ros ⟨o.r, o.a, o.m, o.k + 1, o.ps ++ [(word (third x), tw)], o.dl⟩ rn hx2 (by omega) hr ⟨fun q hq => by
          rcases List.mem_append.mp hq with hq | hq
          · exact ho.ok q hq
          · rw [List.mem_singleton.mp hq]
            exact ⟨⟨fun c hc => (word_ok _ c hc).1, word_len hN⟩, fun c hc => (word_ok _ c hc).2⟩, ho.dl, by show (o.ps ++ [_]).length ≤ 100; rw [List.length_append, List.length_singleton]; omega⟩ (by omega) (by show (o.ps ++ [_]).length + _ ≤ 100; rw [List.length_append, List.length_singleton]; omega) (by omega)
        have e1 : (RO.rc ⟨o.r, o.a, o.m, o.k + 1, o.ps ++ [(word (third x), tw)], o.dl⟩) = ⟨o.rc.us ++ [word (third x)], o.rc.dl⟩ := by
          unfold RO.rc
          rw [List.map_append]
          rfl
        rw [e1] at K
        unfold reRs at K ⊢
        rw [show stv (o.ps ++ [(word (third x), tw)]) = stv o.ps ++ [.str (S (word (third x))) tw] from by rw [stv_app]; rfl] at K
        exact K.map id fun r hr' => ⟨rfl, rfl, hr'.1, hr'.2.1, hr'.2.2.1, by have := hr'.2.2.2; show r.ros.length ≤ ros.length + (zs.length + 1); omega⟩
    · have es : stepR (ros.map RO.rc, o.rc) x = (ros.map RO.rc, ⟨o.rc.us, some (third x)⟩) := by
        unfold stepR
        rw [if_neg (by omega), if_neg (by omega)]
      rw [es]
      refine re_t2 w y xs xn i x t hx1 h3 (third x) rfl fo (refs r0 ros) rn o.r o.a o.m o.k (dvOf o.dl) (stv o.ps) (by rw [refs_len]; omega) (ROs ros) _ _ _ fun o' r' tN => ?_
      have K := re_loop w y r0 xs xn zs (i + 1) (some o') ros ⟨r', o.a, 0, o.k, o.ps, some (third x, tN)⟩ rn hx2 (by omega) hr ⟨ho.ok, fun N t e => by cases e; exact hN, ho.len⟩ (by omega) (by show o.ps.length + _ ≤ 100; omega) (by omega)
      exact K.map id fun r hr' => ⟨rfl, rfl, hr'.1, hr'.2.1, hr'.2.2.1, by have := hr'.2.2.2; show r.ros.length ≤ ros.length + (zs.length + 1); omega⟩
end Mine
end
set_option maxHeartbeats 1000000
noncomputable section
namespace Mine
/-! ## _law_records whole -/
structure REo where
  (R r0 a0 tp : Addr)
  (t5 t3 t4 ta tb : Tok)
  ros : List RO
  o : RO
  rn : Nat
noncomputable def r0F (o : REo) : Facts := [(o.R, lst (refs o.r0 o.ros ++ [.ref o.o.r]) o.rn), (o.r0, lst [.ref o.a0, .int 5 o.t5, .ref o.tp] 0), (o.a0, lst [.str (S [97, 32, 98]) o.ta, .str (S []) o.tb] 0), (o.tp, tup [.int 3 o.t3, .int 4 o.t4])]
noncomputable def start0 : List Rc × Rc := ([⟨[[47]], none⟩], ⟨[], some 7⟩)
noncomputable def REo.put (rs : List RO) (o : REo) : REo := ⟨o.R, o.r0, o.a0, o.tp, o.t5, o.t3, o.t4, o.ta, o.tb, rs, o.o, o.rn⟩
noncomputable def r0G (rs : List RO) (o : REo) : Facts := r0F (o.put rs) ++ o.o.fs
theorem c_re (w : World) (nl : Addr) (zs : List (Int × Tok)) (xn : Nat) (hz : zs.length ≤ 50) (xs : List Value) (hxs : xs = zs.map (fun z => Value.int z.1 z.2)) :
    LCon pw w (G w.params) 24 (reC nl) [(nl, lst xs xn)] (fun o : REo => ret (.ref o.R)) (fun o => (r0F o ++ o.o.fs) ++ ROs o.ros) (fun r => (r.ros.map RO.rc, r.o.rc) = zs.foldl (fun s z => stepR s z.1) start0 ∧ (∀ q ∈ r.ros, okR q) ∧ okR r.o ∧ r.ros.length ≤ 1 + zs.length) := by
  have hlx : 0 + zs.length = xs.length := by rw [hxs, List.length_map]; omega
  refine lcon_in rfl fun A hA hA1 h sz tk g d os D E0 => ?_
  refine gd (Code.func (bodOf reS) (reE sz)) [0,0,2,2] [(nl, lst xs xn), (sz, fra [nt w.params k_numbers tk (.ref nl)] 1), ((sz + 1), cel0)] (sz + 2) (tk + 1) hA hA1 D E0 (by kernel_rfl) rfl rfl fun h1 hA2 D1 E1 => ?_
  have ok1 : okR ⟨sz + 7, sz + 6, 0, 0, [([47], tk + 16)], none⟩ := ⟨fun q hq => by
    rw [List.mem_singleton.mp hq]
    exact ⟨⟨fun c hc => by rw [List.mem_singleton.mp hc]; decide, by show 1 ≤ 3; decide⟩, fun c hc => by rw [List.mem_singleton.mp hc]; unfold okc; decide⟩, fun N t e => (nomatch e), by show 1 ≤ 100; decide⟩
  have ok2 : okR ⟨sz + 9, sz + 8, 0, 0, [], some (7, tk + 17)⟩ := ⟨fun q hq => (nomatch hq), fun N t e => by cases e; decide, by show 0 ≤ 100; decide⟩
  have K := re_loop w ⟨sz, sz + 11, nl, sz + 2, sz + 10, tk, tk + 18, tk + 1⟩ (sz + 5) xs xn zs 0 none [⟨sz + 7, sz + 6, 0, 0, [([47], tk + 16)], none⟩] ⟨sz + 9, sz + 8, 0, 0, [], some (7, tk + 17)⟩ 0 hxs hlx (fun q hq => by rw [List.mem_singleton.mp hq]; exact ok1) ok2 (by show 1 + zs.length ≤ 1000; omega) (by show 0 + zs.length ≤ 100; omega) (by omega)
  refine guk (LCon.con K) [3,3,2,2,2,1,1,0,1,0,13] [(nl, lst xs xn), (sz, fra [nt w.params k_numbers tk (.ref nl), nt w.params k_records (tk + 18) (.ref (sz + 10))] 2), ((sz + 1), cel (.ref (sz + 2))), ((sz + 2), lst [(.str (S [97]) (tk + 1)), (.str (S [66]) (tk + 2)), (.str (S [32]) (tk + 3)), (.str (S [34]) (tk + 4)), (.str (S [92]) (tk + 5)), (.str (S [10]) (tk + 6)), (.str (S [9]) (tk + 7)), (.str (S [58]) (tk + 8)), (.str (S [35]) (tk + 9)), (.str nilS (tk + 10))] 0), ((sz + 3), lst [(.str (S [97, 32, 98]) (tk + 11)), (.str nilS (tk + 12))] 0), ((sz + 4), tup [(.int 3 (tk + 14)), (.int 4 (tk + 15))]), ((sz + 5), lst [(.ref (sz + 3)), (.int 5 (tk + 13)), (.ref (sz + 4))] 0), ((sz + 6), lst [(.str (S [47]) (tk + 16))] 0), ((sz + 7), lst [(.ref (sz + 6)), .none, .none] 0), ((sz + 8), lst [] 0), ((sz + 9), lst [(.ref (sz + 8)), (.int 7 (tk + 17)), .none] 0), ((sz + 10), lst [(.ref (sz + 5)), (.ref (sz + 7)), (.ref (sz + 9))] 0), ((sz + 11), fld "list_iterator" [(.ref nl), (.int 0 0)])] (sz + 12) (tk + 19) [1,12,0,2,3,11,10,9,8,7] [4,5,6] (hA2.le (by decide)) D1 E1 (by generalize w = w'; revert w'; exact tw_fa (by kernel_rfl) (by kernel_rfl)) (by kernel_rfl) (by decide) fun o2 h2 sz2 tk2 hX2 D2 E2 => ?_
  have D3 := D2.perm (perm3 _ _ _)
  have E3 := E2.perm (perm3 _ _ _)
  refine gfr _ (ROs o2.ros) (res := fun o : REo => ret (.ref o.R)) (fs2 := r0G o2.ros) (X := fun o => o.o = o2.o) (REo.put o2.ros) D3 E3 (fun _ => rfl) (fun _ => rfl) (fun o ho => ?_) fun D4 E4 => ?_
  · obtain ⟨e1, e2, e3, e4⟩ := hX2
    have : (REo.put o2.ros o).o = o2.o := ho
    rw [this]
    exact ⟨e1, e2, e3, e4⟩
  obtain ⟨ros, ⟨r, a, m, k, ps, dl⟩, fo, rn⟩ := o2
  rcases fo with _ | ⟨c1, c2, x0, tx, tt3, tt⟩
  · exact gf ({ R := sz + 10, r0 := sz + 5, a0 := sz + 3, tp := sz + 4, t5 := tk + 13, t3 := tk + 14, t4 := tk + 15, ta := tk + 11, tb := tk + 12, ros := [], o := { r := r, a := a, m := m, k := k, ps := ps, dl := dl }, rn := rn }) [1] [5,10,8,9,6,7] hA2 D4 E4 (by generalize w = w'; revert w'; exact tw_fa (by kernel_rfl) (by kernel_rfl)) (by decide) rfl (rfl)
  · exact gf ({ R := sz + 10, r0 := sz + 5, a0 := sz + 3, tp := sz + 4, t5 := tk + 13, t3 := tk + 14, t4 := tk + 15, ta := tk + 11, tb := tk + 12, ros := [], o := { r := r, a := a, m := m, k := k, ps := ps, dl := dl }, rn := rn }) [1] [5,10,8,9,6,7] hA2 D4 E4 (by generalize w = w'; revert w'; exact tw_fa (by kernel_rfl) (by kernel_rfl)) (by decide) rfl (rfl)
end Mine
end
set_option maxHeartbeats 1000000
noncomputable section
namespace Mine
section
variable {prog : Program} {w : World} {G : Nat → Option Obj}
theorem c_lslice (l sl : Addr) (vs : List Value) (n : Nat) (t : Tok) (hl : vs.length ≤ 1000) : Con prog w G 0 (.call (.builtin "list.__getitem__") ⟨[.ref l, .ref sl], []⟩) [(l, lst vs n), (sl, fld "slice" [.none, .int 5 t, .none])] (fun y : Addr => ret (.ref y)) (fun y => [(l, lst vs n), (sl, fld "slice" [.none, .int 5 t, .none]), (y, lst (vs.take 5) 0)]) (fun _ => True) := by
  intro A hA h sz tk g d os D
  have ho := D.hd
  have hos := D.has (sl, fld "slice" [.none, .int 5 t, .none]) (.tail _ (.head _))
  have hTs : (⟨h, g, d, tk, os⟩ : Shared).TypeIs (.ref sl) "slice" := ⟨_, hos, rfl⟩
  have hsz : (⟨vs⟩ : Array Value).size ≤ sizeLine := by show vs.length ≤ 2 ^ 24; omega
  have hpick : slicePick (⟨vs⟩ : Array Value) none (some (5 : Int)) none = ⟨vs.take 5⟩ := slicePick_upto' ⟨vs⟩ 5
  refine Ok.of_call (wpAny_call_entry slot_list_getitem (isList_lst ho).typeIs entry_list_getitem ?_ (args_list_getitem _ _))
  show wpAny _ _ (Builtin.List.listSubscript? (.ref sl) >>= _) _ _ _
  refine wpAny_bind ?_
  unfold Builtin.List.listSubscript?
  refine wpAny_bind (wpAny_specialOf hTs slice_no_index ?_)
  simp only [Option.isNone_none, if_true]
  refine wpAny_pure ?_
  show wpAny _ _ (typeOf (.ref sl) >>= _) _ _ _
  refine wpAny_bind (wpAny_typeOf hTs ?_)
  rw [if_neg (by decide)]
  rw [listSliceParts_eq]
  refine wpAny_bind (wpAny_bind (wpAny_field hos rfl (x := .none) rfl (wpAny_bind (wpAny_listPart .none ?_))))
  rw [if_neg (show ¬ ((rawPart none == rawInt 0) = true) from Bool.false_ne_true)]
  refine wpAny_bind (wpAny_field hos rfl (x := .none) rfl (wpAny_bind (wpAny_listPart .none ?_)))
  refine wpAny_bind (wpAny_field hos rfl (x := .int 5 t) rfl (wpAny_bind (wpAny_listPart (.int 5 t) (wpAny_pure ?_))))
  refine wpAny_bind (m := Builtin.List.listItems (.ref l)) ?_
  unfold Builtin.List.listItems
  refine wpAny_bind (wpAny_seqItems ho rfl (wpAny_pure ?_))
  refine wpAny_bind (wpAny_of_eq (sliceIndices_raw none (some 5) none (⟨vs⟩ : Array Value).size (by simp)) ?_)
  refine wpAny_bind (wpAny_newObj_type (wpAny_pure ⟨_, rfl, ?_⟩) (Nat.le_trans (slicePick_size_le _ none (some 5) none) hsz))
  show Post G g d os h _ _ _ _ _ ⟨h.push ⟨.type "list", none, .seq (slicePick (⟨vs⟩ : Array Value) none (some 5) none) 0, #[]⟩, g, d, tk, os⟩
  rw [hpick]
  refine ⟨sz, _, sz + 1, tk, ?_, rfl, D.alloc (o := lst (vs.take 5) 0) rfl, (Since.start h _).alloc D _, trivial⟩
  show ret (.ref h.objs.size) = _
  rw [D.size]
end
end Mine
end
set_option maxHeartbeats 1000000
noncomputable section
namespace Mine
theorem sel_append (fs : Facts) (ks : List Nat) : ∀ is : List Nat, sel (is ++ ks) fs = sel is fs ++ sel ks fs
  | [] => rfl
  | i :: is => by
    show sel (i :: (is ++ ks)) fs = _
    simp only [Mine.sel]
    split
    · rw [sel_append fs ks is]; rfl
    · exact sel_append fs ks is
section
variable {α : Type} {prog : Program} {w : World} {A : Around} {Q : α → Shared → Prop} {E : Value → Shared → Prop} {G : Nat → Option Obj}
/-- a call by a contract that takes the frame too and gives it back -/
theorem guT {β : Type} {k : Nat} {c : Code} {fs1 : Facts} {res : β → Result} {fs2 : β → Facts} {X : β → Prop} {T : Facts} (C : Con prog w G k c (fs1 ++ T) res (fun x => fs2 x ++ T) X)
    {h hm h₀ : Heap} {fs fs₀ C0 : Facts} {sz szm tk : Nat} {g : Array GenState} {d : Drawn} {os : OsState} {cur : Cur α} (D0 : Rep G hm (C0 ++ T) szm) (S0 : Since h₀ fs₀ hm (C0 ++ T)) (pl : List Nat) (fs' : Facts) (sz' tk' : Nat) (is ks : List Nat) (hA : Fit (k + 1) A) (D : Rep G h fs sz) (S : Since hm C0 h fs)
    (e : ((exm prog w G cur fs sz tk pl).fs, (exm prog w G cur fs sz tk pl).sz, (exm prog w G cur fs sz tk pl).tk, (exm prog w G cur fs sz tk pl).eqs.map (·.1), cal (exm prog w G cur fs sz tk pl).cur, small (cl (exm prog w G cur fs sz tk pl).cur)) = (fs', sz', tk', (exm prog w G cur fs sz tk pl).eqs.map (·.2), some c, true))
    (B : sel is fs' = fs1) (hn : (is ++ ks).Nodup)
    (H : ∀ x h' sz'' tk'', X x → Rep G h' ((fs2 x ++ sel ks fs') ++ T) sz'' → Since h₀ fs₀ h' ((fs2 x ++ sel ks fs') ++ T) → Means prog w A Q E (nxt (exm prog w G cur fs sz tk pl).cur (res x)) ⟨h', g, d, tk'', os⟩) : Means prog w A Q E cur ⟨h, g, d, tk, os⟩ := by
  rw [Prod.mk.injEq, Prod.mk.injEq, Prod.mk.injEq, Prod.mk.injEq, Prod.mk.injEq] at e
  obtain ⟨e1, e2, e3, e4, e5, e6⟩ := e
  refine ex_sound hA.1 400 cur h fs sz tk [] pl D S (AllEq.of e4) fun h' D' S' => ?_
  unfold exm at *
  rw [e1] at D' S'
  have DS := D0.keepT S0 D' S'
  have D1 := DS.1.selT hn
  have S1 := DS.2.selT (js := is ++ ks)
  rw [sel_append, B] at D1 S1
  have D2 := D1.perm (perm3 fs1 (sel ks fs') T)
  have S2 := S1.perm (perm3 fs1 (sel ks fs') T)
  refine at_call e5 (Ok.mono (C _ (arC_fit hA e6) h' _ _ g d os D2.left) fun r s' hp => ?_)
  obtain ⟨x, h2, sz2, tk2, rfl, rfl, D3, S3, hX⟩ := hp
  have DS3 := D2.keepT S2 D3 S3
  exact H x h2 sz2 tk2 hX (DS3.1.perm (perm3 _ _ _)) (DS3.2.perm (perm3 _ _ _))
end
/-! ## _law_records, its records in one list -/
structure RE where
  (R r0 a0 tp : Addr)
  (t5 t3 t4 ta tb : Tok)
  all : List RO
  rn : Nat
noncomputable def RE.f0 (o : RE) : Facts := [(o.R, lst (refs o.r0 o.all) o.rn), (o.r0, lst [.ref o.a0, .int 5 o.t5, .ref o.tp] 0), (o.a0, lst [.str (S [97, 32, 98]) o.ta, .str (S []) o.tb] 0), (o.tp, tup [.int 3 o.t3, .int 4 o.t4])]
noncomputable def recs (zs : List (Int × Tok)) : List Rc := let s := zs.foldl (fun s z => stepR s z.1) start0; s.1 ++ [s.2]
theorem c_re2 (w : World) (nl : Addr) (zs : List (Int × Tok)) (xn : Nat) (hz : zs.length ≤ 50) (xs : List Value) (hxs : xs = zs.map (fun z => Value.int z.1 z.2)) :
    LCon pw w (G w.params) 24 (reC nl) [(nl, lst xs xn)] (fun o : RE => ret (.ref o.R)) (fun o => o.f0 ++ ROs o.all) (fun r => r.all.map RO.rc = recs zs ∧ (∀ q ∈ r.all, okR q) ∧ r.all.length ≤ 2 + zs.length) := by
  have K := (c_re w nl zs xn hz xs hxs).perm (List.Perm.refl _) (fs3 := fun o => (r0F o) ++ ROs (o.ros ++ [o.o])) fun o => by
    rw [ROs_app]
    exact perm_a _ _ _
  refine K.map (fun o => ⟨o.R, o.r0, o.a0, o.tp, o.t5, o.t3, o.t4, o.ta, o.tb, o.ros ++ [o.o], o.rn⟩) fun o ho => ⟨rfl, ?_, ?_, fun q hq => ?_, ?_⟩
  · show r0F o ++ _ = RE.f0 _ ++ _
    unfold r0F RE.f0
    rw [refs_app]
  · show (o.ros ++ [o.o]).map RO.rc = _
    unfold recs
    rw [← ho.1, List.map_append]
    rfl
  · rcases List.mem_append.mp hq with hq | hq
    · exact ho.2.1 q hq
    · rw [List.mem_singleton.mp hq]; exact ho.2.2.1
  · have := ho.2.2.2
    show (o.ros ++ [o.o]).length ≤ _
    rw [List.length_append, List.length_singleton]
    omega
end Mine
end
set_option maxHeartbeats 1000000
noncomputable section
namespace Mine
/-! ## law: the texts -/
noncomputable def laSt : Stmt := stm 10
noncomputable def laQ : Str := S [108,97,119]
noncomputable def laE (L : Addr) : Env := envD (scoOf laSt) laQ L 132 [] (.ref 131)
noncomputable def laC (s : Addr) : Code := .call (.ref 132) ⟨[.ref s], []⟩
noncomputable def laX1 : Expr := asV ((bodOf laSt).getD 1 nop)
noncomputable def laX2 : Expr := cal0 (asV ((bodOf laSt).getD 2 nop))
noncomputable def laL (X : Expr) (L fr it acc : Addr) : Code := .compLoop X 0 (.ref it) (.ref acc) (cmE (lcS X) laQ L fr [] (.ref 131))
noncomputable def laK (X : Expr) (L fr it acc : Addr) : Code := .compStart X 0 (.ref it) (.ref acc) (cmE (lcS X) laQ L fr [] (.ref 131))
structure DT where
  (a1 a2 a3 : Tok)
  (v1 v2 v3 : Value)
noncomputable def drD (P : Params) (o : Option DT) : Obj := match o with
  | none => dic [] 0
  | some d => dic [nt P k_who d.a1 d.v1, nt P k_wait d.a2 d.v2, nt P k_often d.a3 d.v3] 3
structure LA where
  (L fr it acc R : Addr)
  rvs : List Value
  rn : Nat
/-- what a turn touches for any record -/
noncomputable def laFs (P : Params) (y : LA) (ito : Obj) (o : Option DT) (vs : List Value) (n : Nat) : Facts :=
  [(y.L, drD P o), (y.it, ito), (y.R, lst y.rvs y.rn), (y.acc, lst vs n)]
theorem la1_s0 (w : World) (y : LA) (r0 a0 tp : Addr) (t5 t3 t4 ta tb : Tok) (hi : y.rvs[0]? = some (.ref r0)) (vs : List Value) (n : Nat) (hv : vs.length ≤ sizeLine) (hp : ∀ q ∈ [([97, 32, 98], ta), ([], tb)], okP q) (hl : [([97, 32, 98], ta), (([] : List Nat), tb)].length ≤ 100) (T : Facts) (β : Type) (fs2 : β → Facts) (X : β → Prop)
    (IH : ∀ (d : DT) (t : Tok) (tbl : List Value), LCon pw w (G w.params) 27 (laL laX1 y.L y.fr y.it y.acc) ((laFs w.params y (liO y.R 1) (some d) (vs ++ [.str (S (recT [[97, 32, 98], []] [tCDs ++ [53], tRRs ++ [51, 47, 52]])) t]) (n + 1) ++ [(r0, lst [.ref a0, .int 5 t5, .ref tp] 0), (a0, lst [.str (S [97, 32, 98]) ta, .str (S []) tb] 0), (tp, tup [.int 3 t3, .int 4 t4]), (117, tbO tbl)]) ++ T) (fun _ => .ok .next) fs2 X) :
    LCon pw w (G w.params) 27 (laL laX1 y.L y.fr y.it y.acc) ((laFs w.params y (liO y.R 0) none vs n ++ [(r0, lst [.ref a0, .int 5 t5, .ref tp] 0), (a0, lst [.str (S [97, 32, 98]) ta, .str (S []) tb] 0), (tp, tup [.int 3 t3, .int 4 t4]), (117, tbO [])]) ++ T) (fun _ => .ok .next) fs2 X := by
  refine lcon_in rfl fun A hA hA1 h sz tk g d os DD EE => ?_
  have D := DD.left
  have E0 := Since.start h (laFs w.params y (liO y.R 0) none vs n ++ [(r0, lst [.ref a0, .int 5 t5, .ref tp] 0), (a0, lst [.str (S [97, 32, 98]) ta, .str (S []) tb] 0), (tp, tup [.int 3 t3, .int 4 t4]), (117, tbO [])])
  refine gu (c_lnx y.it y.R y.rvs y.rn 0 (.ref r0) hi) [2] [(y.1, drD w.params none), (y.3, liO y.R 0), (y.5, lst y.rvs y.rn), (y.4, lst vs n), (r0, lst [.ref a0, .int 5 t5, .ref tp] 0), (a0, lst [.str (S [97, 32, 98]) ta, .str nilS tb] 0), (tp, tup [.int 3 t3, .int 4 t4]), (117, tbO [])] sz tk [1,2] (hA.le (by decide)) D E0 (by kernel_rfl) ⟨by decide, by kernel_rfl, rfl⟩ (fun _ => rfl) fun r1 h1 sz1 tk1 hX1 D1 E1 => ?_
  refine gu (LCon.con (c_tx0 w a0 tp t3 t4 t5 ([97, 32, 98], ta) [([], tb)] 0 hp hl)) [2,5,5,5,0,5,0,9,9,0,9,0,9,9,5,9,9,9,0,9,0,9,9,5,9,9,9,0,9,0,9,9,5,9,9,9,0,9,0,9,9,5,9,9,11,1,1,1,1,1,1,0,1,1,1,0] [(y.1, dic [nt w.params k_who tk1 (.ref a0), nt w.params k_wait (tk1 + 1) (.int 5 t5), nt w.params k_often (tk1 + 2) (.ref tp)] 3), (y.3, liO y.R (0 + 1)), (y.5, lst y.rvs y.rn), (y.4, lst vs n), (r0, lst [.ref a0, .int 5 t5, .ref tp] 0), (a0, lst [.str (S [97, 32, 98]) ta, .str nilS tb] 0), (tp, tup [.int 3 t3, .int 4 t4]), (117, tbO []), (sz1, fld "list_iterator" [.none, (.int 3 0)]), ((sz1 + 1), tup []), ((sz1 + 2), fld "StopIteration" [(.ref (sz1 + 1)), .none, .none, .none, (.bool false), .none])] (sz1 + 3) (tk1 + 3) [5,6,7] (hA.le (by decide)) D1 E1 (by generalize w = w'; revert w'; exact tw_fa (by kernel_rfl) (by kernel_rfl)) ⟨by decide, by kernel_rfl, rfl⟩ (fun _ => rfl) fun o2 h2 sz2 tk2 hX2 D2 E2 => ?_
  refine gu (c_append y.acc (.str (S (recT [[97, 32, 98], []] [tCDs ++ [53], tRRs ++ [51, 47, 52]])) o2.fst) vs n hv) [] [(y.1, dic [nt w.params k_who tk1 (.ref a0), nt w.params k_wait (tk1 + 1) (.int 5 t5), nt w.params k_often (tk1 + 2) (.ref tp)] 3), (y.3, liO y.R (0 + 1)), (y.5, lst y.rvs y.rn), (y.4, lst vs n), (r0, lst [.ref a0, .int 5 t5, .ref tp] 0), (a0, lst (stv [([97, 32, 98], ta), ([], tb)]) 0), (tp, tup [.int 3 t3, .int 4 t4]), (117, tbO o2.snd), (sz1, fld "list_iterator" [.none, .int 3 0]), ((sz1 + 1), tup []), ((sz1 + 2), fld "StopIteration" [.ref (sz1 + 1), .none, .none, .none, .bool false, .none])] sz2 tk2 [3] (hA.le (by decide)) D2 E2 (by generalize w = w'; revert w'; exact tw_fa (by kernel_rfl) (by kernel_rfl)) ⟨by decide, by kernel_rfl, rfl⟩ (fun _ => rfl) fun r3 h3 sz3 tk3 hX3 D3 E3 => ?_
  exact gaT (IH { a1 := tk1, a2 := tk1 + 1, a3 := tk1 + 2, v1 := .ref a0, v2 := .int 5 t5, v3 := .ref tp } o2.fst o2.snd) DD EE [] [0,1,2,3,4,5,6,7] hA (hA1.le (by decide)) D3 E3 (by generalize w = w'; revert w'; exact tw_fa (by kernel_rfl) (by kernel_rfl)) (by decide) (by kernel_rfl)
theorem la1_sn (w : World) (y : LA) (i : Nat) (r a : Addr) (m k : Nat) (ps : Pcs) (hp : ∀ q ∈ ps, okP q) (hl : ps.length ≤ 100) (hi : y.rvs[i]? = some (.ref r)) (d0 : DT) (vs : List Value) (n : Nat) (hv : vs.length ≤ sizeLine) (T : Facts) (β : Type) (fs2 : β → Facts) (X : β → Prop)
    (IH : ∀ (d : DT) (t : Tok), LCon pw w (G w.params) 27 (laL laX1 y.L y.fr y.it y.acc) ((laFs w.params y (liO y.R (i + 1)) (some d) (vs ++ [.str (S (recT (ps.map fun q : List Nat × Tok => q.1) (midT none))) t]) (n + 1) ++ [(r, lst [.ref a, .none, .none] m), (a, lst (stv ps) k)]) ++ T) (fun _ => .ok .next) fs2 X) :
    LCon pw w (G w.params) 27 (laL laX1 y.L y.fr y.it y.acc) ((laFs w.params y (liO y.R i) (some d0) vs n ++ [(r, lst [.ref a, .none, .none] m), (a, lst (stv ps) k)]) ++ T) (fun _ => .ok .next) fs2 X := by
  have hd : ∀ N t, (none : Option (Nat × Tok)) = some (N, t) → N < 1000 := fun N t e => (nomatch e)
  obtain ⟨b1, b2, b3, v1, v2, v3⟩ := d0
  refine lcon_in rfl fun A hA hA1 h sz tk g d os DD EE => ?_
  have D := DD.left
  have E0 := Since.start h (laFs w.params y (liO y.R i) (some ⟨b1, b2, b3, v1, v2, v3⟩) vs n ++ [(r, lst [.ref a, .none, .none] m), (a, lst (stv ps) k)])
  refine gu (c_lnx y.it y.R y.rvs y.rn i (.ref r) hi) [2] [(y.1, drD w.params (some { a1 := b1, a2 := b2, a3 := b3, v1 := v1, v2 := v2, v3 := v3 })), (y.3, liO y.R i), (y.5, lst y.rvs y.rn), (y.4, lst vs n), (r, lst [.ref a, .none, .none] m), (a, lst (stv ps) k)] sz tk [1,2] (hA.le (by decide)) D E0 (by kernel_rfl) ⟨by decide, by kernel_rfl, rfl⟩ (fun _ => rfl) fun r1 h1 sz1 tk1 hX1 D1 E1 => ?_
  refine gu (LCon.con (c_tx w a ps k none hd hp hl)) [2,5,5,5,0,5,0,7,7,0,7,0,7,7,5,7,7,7,0,7,0,7,7,5,7,7,7,0,7,0,7,7,5,7,7,7,0,7,0,7,7,5,7,7,9,1,1,1,1,1,1,0,1,1,1,0] [(y.1, dic [nt w.params k_who b1 (.ref a), nt w.params k_wait b2 .none, nt w.params k_often b3 .none] 3), (y.3, liO y.R (i + 1)), (y.5, lst y.rvs y.rn), (y.4, lst vs n), (r, lst [.ref a, .none, .none] m), (a, lst (stv ps) k), (sz1, fld "list_iterator" [.none, (.int 3 0)]), ((sz1 + 1), tup []), ((sz1 + 2), fld "StopIteration" [(.ref (sz1 + 1)), .none, .none, .none, (.bool false), .none])] (sz1 + 3) (tk1 + 3) [5] (hA.le (by decide)) D1 E1 (by generalize w = w'; revert w'; exact tw_fa (by kernel_rfl) (by kernel_rfl)) ⟨by decide, by kernel_rfl, rfl⟩ (fun _ => rfl) fun t2 h2 sz2 tk2 hX2 D2 E2 => ?_
  refine gu (c_append y.acc (.str (S (recT (List.map (fun q => q.fst) ps) (midT none))) t2) vs n hv) [] [(y.1, dic [nt w.params k_who b1 (.ref a), nt w.params k_wait b2 .none, nt w.params k_often b3 .none] 3), (y.3, liO y.R (i + 1)), (y.5, lst y.rvs y.rn), (y.4, lst vs n), (r, lst [.ref a, .none, .none] m), (a, lst (stv ps) k), (sz1, fld "list_iterator" [.none, .int 3 0]), ((sz1 + 1), tup []), ((sz1 + 2), fld "StopIteration" [.ref (sz1 + 1), .none, .none, .none, .bool false, .none])] sz2 tk2 [3] (hA.le (by decide)) D2 E2 (by generalize w = w'; revert w'; exact tw_fa (by kernel_rfl) (by kernel_rfl)) ⟨by decide, by kernel_rfl, rfl⟩ (fun _ => rfl) fun r3 h3 sz3 tk3 hX3 D3 E3 => ?_
  exact gaT (IH { a1 := b1, a2 := b2, a3 := b3, v1 := .ref a, v2 := .none, v3 := .none } t2) DD EE [] [0,1,2,3,4,5] hA (hA1.le (by decide)) D3 E3 (by generalize w = w'; revert w'; exact tw_fa (by kernel_rfl) (by kernel_rfl)) (by decide) (by kernel_rfl)
theorem la1_si (w : World) (y : LA) (i : Nat) (r a : Addr) (m k : Nat) (ps : Pcs) (N : Nat) (tN : Tok) (hN : ∀ M t, some (N, tN) = some (M, t) → M < 1000) (hp : ∀ q ∈ ps, okP q) (hl : ps.length ≤ 100) (hi : y.rvs[i]? = some (.ref r)) (d0 : DT) (vs : List Value) (n : Nat) (hv : vs.length ≤ sizeLine) (T : Facts) (β : Type) (fs2 : β → Facts) (X : β → Prop)
    (IH : ∀ (d : DT) (t : Tok), LCon pw w (G w.params) 27 (laL laX1 y.L y.fr y.it y.acc) ((laFs w.params y (liO y.R (i + 1)) (some d) (vs ++ [.str (S (recT (ps.map fun q : List Nat × Tok => q.1) (midT (some N)))) t]) (n + 1) ++ [(r, lst [.ref a, .int N tN, .none] m), (a, lst (stv ps) k)]) ++ T) (fun _ => .ok .next) fs2 X) :
    LCon pw w (G w.params) 27 (laL laX1 y.L y.fr y.it y.acc) ((laFs w.params y (liO y.R i) (some d0) vs n ++ [(r, lst [.ref a, .int N tN, .none] m), (a, lst (stv ps) k)]) ++ T) (fun _ => .ok .next) fs2 X := by
  obtain ⟨b1, b2, b3, v1, v2, v3⟩ := d0
  refine lcon_in rfl fun A hA hA1 h sz tk g d os DD EE => ?_
  have D := DD.left
  have E0 := Since.start h (laFs w.params y (liO y.R i) (some ⟨b1, b2, b3, v1, v2, v3⟩) vs n ++ [(r, lst [.ref a, .int N tN, .none] m), (a, lst (stv ps) k)])
  refine gu (c_lnx y.it y.R y.rvs y.rn i (.ref r) hi) [2] [(y.1, drD w.params (some { a1 := b1, a2 := b2, a3 := b3, v1 := v1, v2 := v2, v3 := v3 })), (y.3, liO y.R i), (y.5, lst y.rvs y.rn), (y.4, lst vs n), (r, lst [.ref a, .int (↑N) tN, .none] m), (a, lst (stv ps) k)] sz tk [1,2] (hA.le (by decide)) D E0 (by kernel_rfl) ⟨by decide, by kernel_rfl, rfl⟩ (fun _ => rfl) fun r1 h1 sz1 tk1 hX1 D1 E1 => ?_
  refine gu (LCon.con (c_tx w a ps k (some (N, tN)) hN hp hl)) [2,5,5,5,0,5,0,7,7,0,7,0,7,7,5,7,7,7,0,7,0,7,7,5,7,7,7,0,7,0,7,7,5,7,7,7,0,7,0,7,7,5,7,7,9,1,1,1,1,1,1,0,1,1,1,0] [(y.1, dic [nt w.params k_who b1 (.ref a), nt w.params k_wait b2 (.int (Int.ofNat N) tN), nt w.params k_often b3 .none] 3), (y.3, liO y.R (i + 1)), (y.5, lst y.rvs y.rn), (y.4, lst vs n), (r, lst [.ref a, .int (↑N) tN, .none] m), (a, lst (stv ps) k), (sz1, fld "list_iterator" [.none, (.int 3 0)]), ((sz1 + 1), tup []), ((sz1 + 2), fld "StopIteration" [(.ref (sz1 + 1)), .none, .none, .none, (.bool false), .none])] (sz1 + 3) (tk1 + 3) [5] (hA.le (by decide)) D1 E1 (by generalize w = w'; revert w'; exact tw_fa (by kernel_rfl) (by kernel_rfl)) ⟨by decide, by kernel_rfl, rfl⟩ (fun _ => rfl) fun t2 h2 sz2 tk2 hX2 D2 E2 => ?_
  refine gu (c_append y.acc (.str (S (recT (List.map (fun q => q.fst) ps) (midT (some N)))) t2) vs n hv) [] [(y.1, dic [nt w.params k_who b1 (.ref a), nt w.params k_wait b2 (.int (Int.ofNat N) tN), nt w.params k_often b3 .none] 3), (y.3, liO y.R (i + 1)), (y.5, lst y.rvs y.rn), (y.4, lst vs n), (r, lst [.ref a, .int (↑N) tN, .none] m), (a, lst (stv ps) k), (sz1, fld "list_iterator" [.none, .int 3 0]), ((sz1 + 1), tup []), ((sz1 + 2), fld "StopIteration" [.ref (sz1 + 1), .none, .none, .none, .bool false, .none])] sz2 tk2 [3] (hA.le (by decide)) D2 E2 (by generalize w = w'; revert w'; exact tw_fa (by kernel_rfl) (by kernel_rfl)) ⟨by decide, by kernel_rfl, rfl⟩ (fun _ => rfl) fun r3 h3 sz3 tk3 hX3 D3 E3 => ?_
  exact gaT (IH { a1 := b1, a2 := b2, a3 := b3, v1 := .ref a, v2 := .int (↑N) tN, v3 := .none } t2) DD EE [] [0,1,2,3,4,5] hA (hA1.le (by decide)) D3 E3 (by generalize w = w'; revert w'; exact tw_fa (by kernel_rfl) (by kernel_rfl)) (by decide) (by kernel_rfl)
theorem la1_stop (w : World) (y : LA) (i : Nat) (hi : y.rvs[i]? = none) (d0 : DT) (vs : List Value) (n : Nat) :
    LCon pw w (G w.params) 27 (laL laX1 y.L y.fr y.it y.acc) (laFs w.params y (liO y.R i) (some d0) vs n) (fun _ : Unit => .ok .next) (fun _ => laFs w.params y (liX i) (some d0) vs n) (fun _ => True) := by
  refine lcon_in rfl fun A hA hA1 h sz tk g d os D E0 => ?_
  refine gu (c_lnE y.it y.R y.rvs y.rn i hi) [2] [(y.1, drD w.params (some d0)), (y.3, liO y.R i), (y.5, lst y.rvs y.rn), (y.4, lst vs n)] sz tk [1,2] (hA.le (by decide)) D E0 (by kernel_rfl) ⟨by decide, by kernel_rfl, rfl⟩ (fun _ => rfl) fun y1 h1 sz1 tk1 hX1 D1 E1 => ?_
  exact gf (()) [6] [0,1,2,3] hA D1 E1 (by kernel_rfl) (by decide) rfl (trivial)
end Mine
end
set_option maxHeartbeats 1000000
noncomputable section
namespace Mine
theorem perm_b (A P L F M : Facts) : ((A ++ P) ++ (L ++ (F ++ M))).Perm ((A ++ F) ++ (P ++ (L ++ M))) := by
  rw [List.append_assoc, List.append_assoc]
  refine List.Perm.append_left A ?_
  have e1 : P ++ (L ++ (F ++ M)) = ((P ++ L) ++ F) ++ M := by simp
  have e2 : F ++ (P ++ (L ++ M)) = (F ++ (P ++ L)) ++ M := by simp
  rw [e1, e2]
  exact List.Perm.append_right M List.perm_append_comm
noncomputable def p0F (r0 a0 tp : Addr) (t5 t3 t4 ta tb : Tok) (tbl : List Value) : Facts := [(r0, lst [.ref a0, .int 5 t5, .ref tp] 0), (a0, lst [.str (S [97, 32, 98]) ta, .str (S []) tb] 0), (tp, tup [.int 3 t3, .int 4 t4]), (117, tbO tbl)]
structure LA1 where
  ps : Pcs
  d : DT
  n : Nat
  tbl : List Value
noncomputable def txOf (o : RO) : List Nat := recT o.rc.us (midT o.rc.dl)
theorem ROs_mid (l1 l2 : List RO) (o : RO) : ROs (l1 ++ o :: l2) = ROs l1 ++ (o.fs ++ ROs l2) := by
  unfold ROs
  rw [List.flatMap_append, List.flatMap_cons]
theorem refs_get (r0 : Addr) (l1 l2 : List RO) (o : RO) : (refs r0 (l1 ++ o :: l2))[l1.length + 1]? = some (.ref o.r) := by
  unfold refs
  simp
theorem refs_end (r0 : Addr) (l : List RO) : (refs r0 l)[l.length + 1]? = none := by
  unfold refs
  simp
theorem la1_loop (w : World) (L fr it acc R r0 : Addr) (rn : Nat) (P0 : Facts) : ∀ (l2 l1 : List RO) (d0 : DT) (vs : List Value) (n : Nat), (∀ q ∈ l2, okR q) → vs.length + l2.length ≤ 1000 →
    LCon pw w (G w.params) 27 (laL laX1 L fr it acc) ((laFs w.params ⟨L, fr, it, acc, R, refs r0 (l1 ++ l2), rn⟩ (liO R (l1.length + 1)) (some d0) vs n ++ P0) ++ ROs (l1 ++ l2)) (fun _ : LA1 => .ok .next)
      (fun r => (laFs w.params ⟨L, fr, it, acc, R, refs r0 (l1 ++ l2), rn⟩ (liX ((l1 ++ l2).length + 1)) (some r.d) (vs ++ stv r.ps) r.n ++ P0) ++ ROs (l1 ++ l2)) (fun r => r.ps.map (·.1) = l2.map txOf)
  | [], l1, d0, vs, n, hq, hl => by
    rw [List.append_nil]
    have K := ((la1_stop w ⟨L, fr, it, acc, R, refs r0 l1, rn⟩ (l1.length + 1) (refs_end r0 l1) d0 vs n).frame P0).frame (ROs l1)
    refine K.map (fun _ => ⟨[], d0, n, []⟩) fun _ _ => ⟨rfl, ?_, rfl⟩
    show _ = (laFs _ _ _ _ (vs ++ []) _ ++ P0) ++ _
    rw [List.append_nil]
  | o :: l2, l1, d0, vs, n, hq, hl => by
    rw [List.length_cons] at hl
    have ho := hq o (.head _)
    have e1 : l1 ++ o :: l2 = (l1 ++ [o]) ++ l2 := by simp
    have nxt : ∀ (d : DT) (t : Tok), LCon pw w (G w.params) 27 (laL laX1 L fr it acc) ((laFs w.params ⟨L, fr, it, acc, R, refs r0 (l1 ++ o :: l2), rn⟩ (liO R (l1.length + 1 + 1)) (some d) (vs ++ [.str (S (txOf o)) t]) (n + 1) ++ o.fs) ++ (P0 ++ (ROs l1 ++ ROs l2))) (fun _ : LA1 => .ok .next)
      (fun r => (laFs w.params ⟨L, fr, it, acc, R, refs r0 (l1 ++ o :: l2), rn⟩ (liX ((l1 ++ o :: l2).length + 1)) (some r.d) (vs ++ stv r.ps) r.n ++ P0) ++ ROs (l1 ++ o :: l2)) (fun r => r.ps.map (·.1) = (o :: l2).map txOf) := fun d t => by
      have K := la1_loop w L fr it acc R r0 rn P0 l2 (l1 ++ [o]) d (vs ++ [.str (S (txOf o)) t]) (n + 1) (fun q h => hq q (.tail _ h)) (by rw [List.length_append]; show _ + 1 + _ ≤ 1000; omega)
      rw [← e1, List.length_append] at K
      refine ((K.perm1 ?_).map (fun r => ⟨(txOf o, t) :: r.ps, r.d, r.n, r.tbl⟩) fun r hr => ⟨rfl, ?_, congrArg (txOf o :: ·) hr⟩)
      · rw [ROs_mid]
        exact (perm_b _ _ _ _ _).symm
      · show (laFs _ _ _ _ (vs ++ [.str (S (txOf o)) t] ++ stv r.ps) _ ++ P0) ++ _ = (laFs _ _ _ _ (vs ++ (.str (S (txOf o)) t :: stv r.ps)) _ ++ P0) ++ _
        rw [List.append_assoc vs]
        rfl
    have hp : ((laFs w.params ⟨L, fr, it, acc, R, refs r0 (l1 ++ o :: l2), rn⟩ (liO R (l1.length + 1)) (some d0) vs n ++ P0) ++ ROs (l1 ++ o :: l2)).Perm ((laFs w.params ⟨L, fr, it, acc, R, refs r0 (l1 ++ o :: l2), rn⟩ (liO R (l1.length + 1)) (some d0) vs n ++ o.fs) ++ (P0 ++ (ROs l1 ++ ROs l2))) := by
      rw [ROs_mid]
      exact perm_b _ _ _ _ _
    refine LCon.perm1 ?_ hp
    have hv : vs.length ≤ sizeLine := by show _ ≤ 2 ^ 24; omega
    obtain ⟨r, a, m, k, ps, dl⟩ := o
    cases dl with
    | none => exact la1_sn w ⟨L, fr, it, acc, R, refs r0 (l1 ++ ⟨r, a, m, k, ps, none⟩ :: l2), rn⟩ (l1.length + 1) r a m k ps (fun q h => (ho.ok q h).1) ho.len (refs_get r0 l1 l2 _) d0 vs n hv _ _ _ _ nxt
    | some d =>
      obtain ⟨N, tN⟩ := d
      exact la1_si w ⟨L, fr, it, acc, R, refs r0 (l1 ++ ⟨r, a, m, k, ps, some (N, tN)⟩ :: l2), rn⟩ (l1.length + 1) r a m k ps N tN ho.dl (fun q h => (ho.ok q h).1) ho.len (refs_get r0 l1 l2 _) d0 vs n hv _ _ _ _ nxt
noncomputable def tx0 : List Nat := recT [[97, 32, 98], []] [tCDs ++ [53], tRRs ++ [51, 47, 52]]
theorem la1_all (w : World) (L fr it acc R r0 a0 tp : Addr) (t5 t3 t4 ta tb : Tok) (rn : Nat) (all : List RO) (hq : ∀ q ∈ all, okR q) (hl : all.length ≤ 900) :
    LCon pw w (G w.params) 27 (laL laX1 L fr it acc) ((laFs w.params ⟨L, fr, it, acc, R, refs r0 all, rn⟩ (liO R 0) none [] 0 ++ p0F r0 a0 tp t5 t3 t4 ta tb []) ++ ROs all) (fun _ : LA1 => .ok .next)
      (fun r => (laFs w.params ⟨L, fr, it, acc, R, refs r0 all, rn⟩ (liX (all.length + 1)) (some r.d) (stv r.ps) r.n ++ p0F r0 a0 tp t5 t3 t4 ta tb r.tbl) ++ ROs all) (fun r => r.ps.map (·.1) = tx0 :: all.map txOf) := by
  have hp : ∀ q ∈ [([97, 32, 98], ta), (([] : List Nat), tb)], okP q := fun q hq => by
    simp only [List.mem_cons, List.not_mem_nil, or_false] at hq
    rcases hq with rfl | rfl
    · refine ⟨fun c hc => ?_, Nat.le_refl 3⟩
      simp only [List.mem_cons, List.not_mem_nil, or_false] at hc
      omega
    · exact ⟨fun c hc => (nomatch hc), Nat.zero_le _⟩
  refine la1_s0 w ⟨L, fr, it, acc, R, refs r0 all, rn⟩ r0 a0 tp t5 t3 t4 ta tb rfl [] 0 (Nat.zero_le _) hp (by show 2 ≤ 100; decide) (ROs all) _ _ _ fun d t tbl => ?_
  have K := la1_loop w L fr it acc R r0 rn (p0F r0 a0 tp t5 t3 t4 ta tb tbl) all [] d ([] ++ [.str (S tx0) t]) (0 + 1) hq (by show 1 + _ ≤ 1000; omega)
  exact K.map (fun r => ⟨(tx0, t) :: r.ps, r.d, r.n, tbl⟩) fun r hr => ⟨rfl, rfl, congrArg (tx0 :: ·) hr⟩
theorem la1_k (w : World) (L fr it acc R r0 a0 tp : Addr) (t5 t3 t4 ta tb : Tok) (rn : Nat) (all : List RO) (hq : ∀ q ∈ all, okR q) (hl : all.length ≤ 900) :
    LCon pw w (G w.params) 28 (laK laX1 L fr it acc) ((laFs w.params ⟨L, fr, it, acc, R, refs r0 all, rn⟩ (liO R 0) none [] 0 ++ p0F r0 a0 tp t5 t3 t4 ta tb []) ++ ROs all) (fun _ : LA1 => .ok .next)
      (fun r => (laFs w.params ⟨L, fr, it, acc, R, refs r0 all, rn⟩ (liX (all.length + 1)) (some r.d) (stv r.ps) r.n ++ p0F r0 a0 tp t5 t3 t4 ta tb r.tbl) ++ ROs all) (fun r => r.ps.map (·.1) = tx0 :: all.map txOf) := by
  induction w using tv_all with
  | ht w =>
    refine lcon_in rfl fun A hA hA1 h sz tk g d os DD EE => ?_
    have D := DD.left
    have E0 := Since.start h (laFs (tv w true).params ⟨L, fr, it, acc, R, refs r0 all, rn⟩ (liO R 0) none [] 0 ++ p0F r0 a0 tp t5 t3 t4 ta tb [])
    exact gaT (la1_all (tv w true) L fr it acc R r0 a0 tp t5 t3 t4 ta tb rn all hq hl) DD EE [] [0,1,2,3,4,5,6,7] hA (hA1.le (by decide)) D E0 (by kernel_rfl) (by decide) (by kernel_rfl)
  | hf w =>
    refine lcon_in rfl fun A hA hA1 h sz tk g d os DD EE => ?_
    have D := DD.left
    have E0 := Since.start h (laFs (tv w false).params ⟨L, fr, it, acc, R, refs r0 all, rn⟩ (liO R 0) none [] 0 ++ p0F r0 a0 tp t5 t3 t4 ta tb [])
    exact gaT (la1_all (tv w false) L fr it acc R r0 a0 tp t5 t3 t4 ta tb rn all hq hl) DD EE [2,2,0,2,0,2] [0,1,2,3,4,5,6,7] hA (hA1.le (by decide)) D E0 (by generalize w = w'; revert w'; exact tw_fa (by kernel_rfl) (by kernel_rfl)) (by decide) (by kernel_rfl)
end Mine
end
set_option maxHeartbeats 1000000
noncomputable section
namespace Mine
/-! ## law: the page -/
noncomputable def eaD (P : Params) (o : Option (Tok × Value)) : Obj := match o with
  | none => dic [] 0
  | some (a, v) => dic [nt P k_each a v] 1
noncomputable def la2F (P : Params) (L it tx acc : Addr) (ito : Obj) (tvs : List Value) (tn : Nat) (o : Option (Tok × Value)) (vs : List Value) (n : Nat) : Facts :=
  [(L, eaD P o), (it, ito), (tx, lst tvs tn), (acc, lst vs n)]
theorem ne_nil (c : Nat) (l : List Nat) : ((S (c :: l)).cps.toList != nilS.cps.toList) = true := rfl
theorem ne_nil0 : ((S []).cps.toList != nilS.cps.toList) = false := rfl
theorem la2_c (w : World) (L fr it tx acc : Addr) (tvs : List Value) (tn i c : Nat) (l : List Nat) (t : Tok) (hi : tvs[i]? = some (.str (S (c :: l)) t)) (o : Option (Tok × Value)) (vs : List Value) (n : Nat) (hv : vs.length ≤ sizeLine) (β : Type) (fs2 : β → Facts) (X : β → Prop)
    (IH : ∀ (a : Tok), LCon pw w (G w.params) 12 (laL laX2 L fr it acc) (la2F w.params L it tx acc (liO tx (i + 1)) tvs tn (some (a, .str (S (c :: l)) t)) (vs ++ [.str (S (c :: l)) t]) (n + 1)) (fun _ => .ok .next) fs2 X) :
    LCon pw w (G w.params) 12 (laL laX2 L fr it acc) (la2F w.params L it tx acc (liO tx i) tvs tn o vs n) (fun _ => .ok .next) fs2 X := by
  rcases o with _ | ⟨a, v⟩
  · refine lcon_in rfl fun A hA hA1 h sz tk g d os D E0 => ?_
    refine gu (c_lnx it tx tvs tn i (.str (S (c :: l)) t) hi) [2] [(L, eaD w.params none), (it, liO tx i), (tx, lst tvs tn), (acc, lst vs n)] sz tk [1,2] (hA.le (by decide)) D E0 (by kernel_rfl) ⟨by decide, by kernel_rfl, rfl⟩ (fun _ => rfl) fun r1 h1 sz1 tk1 hX1 D1 E1 => ?_
    refine gu (c_ne (S (c :: l)) nilS t (tk1 + 1) true (ne_nil c l)) [1,1,1] [(L, dic [nt w.params k_each tk1 (.str (S (c :: l)) t)] 1), (it, liO tx (i + 1)), (tx, lst tvs tn), (acc, lst vs n)] sz1 (tk1 + 2) [] (hA.le (by decide)) D1 E1 (by generalize w = w'; revert w'; exact tw_fa (by kernel_rfl) (by kernel_rfl)) ⟨by decide, by kernel_rfl, rfl⟩ (fun _ => rfl) fun r2 h2 sz2 tk2 hX2 D2 E2 => ?_
    refine gu (c_append acc (.str (S (c :: l)) t) vs n hv) [1] [(L, dic [nt w.params k_each tk1 (.str (S (c :: l)) t)] 1), (it, liO tx (i + 1)), (tx, lst tvs tn), (acc, lst vs n)] sz2 tk2 [3] (hA.le (by decide)) D2 E2 (by generalize w = w'; revert w'; exact tw_fa (by kernel_rfl) (by kernel_rfl)) ⟨by decide, by kernel_rfl, rfl⟩ (fun _ => rfl) fun r3 h3 sz3 tk3 hX3 D3 E3 => ?_
    exact ga (IH tk1) [] [0,1,2,3] hA (hA1.le (by decide)) D3 E3 (by generalize w = w'; revert w'; exact tw_fa (by kernel_rfl) (by kernel_rfl)) (by decide) (by kernel_rfl)
  · refine lcon_in rfl fun A hA hA1 h sz tk g d os D E0 => ?_
    refine gu (c_lnx it tx tvs tn i (.str (S (c :: l)) t) hi) [2] [(L, eaD w.params (some (a, v))), (it, liO tx i), (tx, lst tvs tn), (acc, lst vs n)] sz tk [1,2] (hA.le (by decide)) D E0 (by kernel_rfl) ⟨by decide, by kernel_rfl, rfl⟩ (fun _ => rfl) fun r1 h1 sz1 tk1 hX1 D1 E1 => ?_
    refine gu (c_ne (S (c :: l)) nilS t (tk1 + 1) true (ne_nil c l)) [1,1,1] [(L, dic [nt w.params k_each a (.str (S (c :: l)) t)] 1), (it, liO tx (i + 1)), (tx, lst tvs tn), (acc, lst vs n)] sz1 (tk1 + 2) [] (hA.le (by decide)) D1 E1 (by generalize w = w'; revert w'; exact tw_fa (by kernel_rfl) (by kernel_rfl)) ⟨by decide, by kernel_rfl, rfl⟩ (fun _ => rfl) fun r2 h2 sz2 tk2 hX2 D2 E2 => ?_
    refine gu (c_append acc (.str (S (c :: l)) t) vs n hv) [1] [(L, dic [nt w.params k_each a (.str (S (c :: l)) t)] 1), (it, liO tx (i + 1)), (tx, lst tvs tn), (acc, lst vs n)] sz2 tk2 [3] (hA.le (by decide)) D2 E2 (by generalize w = w'; revert w'; exact tw_fa (by kernel_rfl) (by kernel_rfl)) ⟨by decide, by kernel_rfl, rfl⟩ (fun _ => rfl) fun r3 h3 sz3 tk3 hX3 D3 E3 => ?_
    exact ga (IH a) [] [0,1,2,3] hA (hA1.le (by decide)) D3 E3 (by generalize w = w'; revert w'; exact tw_fa (by kernel_rfl) (by kernel_rfl)) (by decide) (by kernel_rfl)
theorem la2_n (w : World) (L fr it tx acc : Addr) (tvs : List Value) (tn i : Nat) (t : Tok) (hi : tvs[i]? = some (.str (S []) t)) (a : Tok) (v : Value) (vs : List Value) (n : Nat) (β : Type) (fs2 : β → Facts) (X : β → Prop)
    (IH : LCon pw w (G w.params) 12 (laL laX2 L fr it acc) (la2F w.params L it tx acc (liO tx (i + 1)) tvs tn (some (a, .str (S []) t)) vs n) (fun _ => .ok .next) fs2 X) :
    LCon pw w (G w.params) 12 (laL laX2 L fr it acc) (la2F w.params L it tx acc (liO tx i) tvs tn (some (a, v)) vs n) (fun _ => .ok .next) fs2 X := by
  refine lcon_in rfl fun A hA hA1 h sz tk g d os D E0 => ?_
  refine gu (c_lnx it tx tvs tn i (.str nilS t) hi) [2] [(L, eaD w.params (some (a, v))), (it, liO tx i), (tx, lst tvs tn), (acc, lst vs n)] sz tk [1,2] (hA.le (by decide)) D E0 (by kernel_rfl) ⟨by decide, by kernel_rfl, rfl⟩ (fun _ => rfl) fun r1 h1 sz1 tk1 hX1 D1 E1 => ?_
  refine gu (c_ne nilS nilS t (tk1 + 1) false ne_nil0) [1,1,1] [(L, dic [nt w.params k_each a (.str nilS t)] 1), (it, liO tx (i + 1)), (tx, lst tvs tn), (acc, lst vs n)] sz1 (tk1 + 2) [] (hA.le (by decide)) D1 E1 (by generalize w = w'; revert w'; exact tw_fa (by kernel_rfl) (by kernel_rfl)) ⟨by decide, by kernel_rfl, rfl⟩ (fun _ => rfl) fun r2 h2 sz2 tk2 hX2 D2 E2 => ?_
  exact ga (IH) [] [0,1,2,3] hA (hA1.le (by decide)) D2 E2 (by generalize w = w'; revert w'; exact tw_fa (by kernel_rfl) (by kernel_rfl)) (by decide) (by kernel_rfl)
theorem la2_e (w : World) (L fr it tx acc : Addr) (tvs : List Value) (tn i : Nat) (hi : tvs[i]? = none) (a : Tok) (v : Value) (vs : List Value) (n : Nat) :
    LCon pw w (G w.params) 12 (laL laX2 L fr it acc) (la2F w.params L it tx acc (liO tx i) tvs tn (some (a, v)) vs n) (fun _ : Unit => .ok .next) (fun _ => la2F w.params L it tx acc (liX i) tvs tn (some (a, v)) vs n) (fun _ => True) := by
  refine lcon_in rfl fun A hA hA1 h sz tk g d os D E0 => ?_
  refine gu (c_lnE it tx tvs tn i hi) [2] [(L, eaD w.params (some (a, v))), (it, liO tx i), (tx, lst tvs tn), (acc, lst vs n)] sz tk [1,2] (hA.le (by decide)) D E0 (by kernel_rfl) ⟨by decide, by kernel_rfl, rfl⟩ (fun _ => rfl) fun y1 h1 sz1 tk1 hX1 D1 E1 => ?_
  exact gf (()) [6] [0,1,2,3] hA D1 E1 (by kernel_rfl) (by decide) rfl (trivial)
structure LA2 where
  (a : Tok)
  v : Value
  n : Nat
noncomputable def full (p : List Nat × Tok) : Bool := match p.1 with
  | [] => false
  | _ :: _ => true
theorem la2_loop (w : World) (L fr it tx acc : Addr) (tn : Nat) : ∀ (l2 l1 : Pcs) (a : Tok) (v : Value) (us : Pcs) (n : Nat), us.length + l2.length ≤ 1000 →
    LCon pw w (G w.params) 12 (laL laX2 L fr it acc) (la2F w.params L it tx acc (liO tx l1.length) (stv (l1 ++ l2)) tn (some (a, v)) (stv us) n) (fun _ : LA2 => .ok .next) (fun r => la2F w.params L it tx acc (liX (l1 ++ l2).length) (stv (l1 ++ l2)) tn (some (r.a, r.v)) (stv (us ++ l2.filter full)) r.n) (fun _ => True)
  | [], l1, a, v, us, n, hl => by
    have := la2_e w L fr it tx acc (stv (l1 ++ [])) tn l1.length (by rw [List.append_nil]; exact stv_end l1) a v (stv us) n
    refine this.map (fun _ => ⟨a, v, n⟩) fun _ _ => ⟨rfl, ?_, trivial⟩
    rw [List.append_nil, List.filter_nil, List.append_nil]
  | (u, t) :: l2, l1, a, v, us, n, hl => by
    rw [List.length_cons] at hl
    have e1 : l1 ++ (u, t) :: l2 = (l1 ++ [(u, t)]) ++ l2 := by simp
    have hg : (stv (l1 ++ (u, t) :: l2))[l1.length]? = some (.str (S u) t) := by
      rw [stv_get _ _ (by simp)]
      simp [List.getD]
    cases u with
    | nil =>
      refine la2_n w L fr it tx acc _ tn l1.length t hg a v (stv us) n _ _ _ ?_
      have K := la2_loop w L fr it tx acc tn l2 (l1 ++ [([], t)]) a (.str (S []) t) us n (by omega)
      rw [← e1, List.length_append] at K
      exact K.map id fun r _ => ⟨rfl, rfl, trivial⟩
    | cons c l =>
      refine la2_c w L fr it tx acc _ tn l1.length c l t hg (some (a, v)) (stv us) n (by rw [stv_len]; show _ ≤ 2 ^ 24; omega) _ _ _ fun a' => ?_
      have K := la2_loop w L fr it tx acc tn l2 (l1 ++ [(c :: l, t)]) a' (.str (S (c :: l)) t) (us ++ [(c :: l, t)]) (n + 1) (by rw [List.length_append, List.length_singleton]; omega)
      rw [← e1, List.length_append] at K
      rw [show stv us ++ [.str (S (c :: l)) t] = stv (us ++ [(c :: l, t)]) from by rw [stv_app]; rfl]
      refine K.map id fun r _ => ⟨rfl, ?_, trivial⟩
      rw [List.append_assoc]
      rfl
theorem la2_k (w : World) (L fr it tx acc : Addr) (tn : Nat) (c : Nat) (l : List Nat) (t : Tok) (ps : Pcs) (hl : ps.length ≤ 900) :
    LCon pw w (G w.params) 13 (laK laX2 L fr it acc) (la2F w.params L it tx acc (liO tx 0) (stv ((c :: l, t) :: ps)) tn none [] 0) (fun _ : LA2 => .ok .next) (fun r => la2F w.params L it tx acc (liX (ps.length + 1)) (stv ((c :: l, t) :: ps)) tn (some (r.a, r.v)) (stv (((c :: l, t) :: ps).filter full)) r.n) (fun _ => True) := by
  have K : ∀ w, LCon pw w (G w.params) 12 (laL laX2 L fr it acc) (la2F w.params L it tx acc (liO tx 0) (stv ((c :: l, t) :: ps)) tn none [] 0) (fun _ : LA2 => .ok .next) (fun r => la2F w.params L it tx acc (liX (ps.length + 1)) (stv ((c :: l, t) :: ps)) tn (some (r.a, r.v)) (stv (((c :: l, t) :: ps).filter full)) r.n) (fun _ => True) := fun w => by
    refine la2_c w L fr it tx acc _ tn 0 c l t rfl none [] 0 (Nat.zero_le _) _ _ _ fun a' => ?_
    have K := la2_loop w L fr it tx acc tn ps [(c :: l, t)] a' (.str (S (c :: l)) t) [(c :: l, t)] (0 + 1) (by show 1 + _ ≤ 1000; omega)
    exact K.map id fun r _ => ⟨rfl, rfl, trivial⟩
  induction w using tv_all with
  | ht w =>
    refine lcon_in rfl fun A hA hA1 h sz tk g d os D E0 => ?_
    exact ga (K (tv w true)) [] [0,1,2,3] hA (hA1.le (by decide)) D E0 (by kernel_rfl) (by decide) (by kernel_rfl)
  | hf w =>
    refine lcon_in rfl fun A hA hA1 h sz tk g d os D E0 => ?_
    exact ga (K (tv w false)) [2,2,0,2,0,2] [0,1,2,3] hA (hA1.le (by decide)) D E0 (by generalize w = w'; revert w'; exact tw_fa (by kernel_rfl) (by kernel_rfl)) (by decide) (by kernel_rfl)
end Mine
end
set_option maxHeartbeats 1000000
noncomputable section
namespace Mine
/-! ## from the model's own words to the machine -/
section
variable {prog : Program} {w : World} {A : Around} {E : Value → Shared → Prop} {s : Shared} {env : Env}
theorem at_eval {e : Expr} {Q : Value → Shared → Prop} (H : Means prog w A Q E (.top (ZFast.zw14044960220447912780 e env)) s) : wpAny (model prog w) A (eval e env) Q E s := by
  rw [ZFast.ze14044960220447912780]
  exact H
theorem at_execs {l : List Stmt} {Q : Flow → Shared → Prop} (H : Means prog w A Q E (.top (ZFast.zw12563942051412417395 l env)) s) : wpAny (model prog w) A (execs l env) Q E s := by
  rw [ZFast.ze12563942051412417395]
  exact H
theorem at_assign {e : Expr} {v : Value} {Q : Unit → Shared → Prop} (H : Means prog w A Q E (.top (ZFast.zw17772580674575903948 e env v)) s) : wpAny (model prog w) A (assign e env v) Q E s := by
  rw [ZFast.ze17772580674575903948]
  exact H
theorem at_next {v : Value} {Q : Option Value → Shared → Prop} (H : Means prog w A Q E (.top (ZFast.zw9404975358583537561 v)) s) : wpAny (model prog w) A (pyNext v) Q E s := by
  rw [ZFast.ze9404975358583537561]
  exact H
theorem execs_app (l2 : List Stmt) : ∀ l1 : List Stmt, execs (l1 ++ l2) env = (execs l1 env >>= fun f => match f with | .next => execs l2 env | f => pure f)
  | [] => by
    show execs l2 env = (pure Flow.next >>= _)
    rw [pure_bind]
  | st :: l1 => by
    rw [List.cons_append, execs_cons, execs_cons, bind_assoc]
    congr 1
    funext f
    cases f with
    | next => exact execs_app l2 l1
    | _ => rw [pure_bind]
theorem execs_split {Q : Flow → Shared → Prop} (l1 l2 : List Stmt) (H : wpAny (model prog w) A (execs l1 env) (fun f s' => f = .next ∧ wpAny (model prog w) A (execs l2 env) Q E s') E s) : wpAny (model prog w) A (execs (l1 ++ l2) env) Q E s := by
  rw [execs_app]
  refine wpAny_bind (wpAny_mono H (fun f s' h => ?_) fun _ _ h => h)
  obtain ⟨rfl, h⟩ := h
  exact h
/-- one turn of a list's comprehension with one test -/
theorem turn_f {elt target iter test : Expr} {scope : Scope} {pos : Pos} {it acc : Value} {R : Result → Shared → Prop} (ht : ∀ v, letOwnedTupleGo target it v = pure ())
    (H : wpAny (model prog w) (A.under (.compLoop (.ListComp elt [⟨target, iter, [test], 0⟩] scope pos) 0 it acc env)) (pyNext it) (fun r s₁ => match r with
      | none => R (.ok .next) s₁
      | some v => wpAny (model prog w) (A.under (.compLoop (.ListComp elt [⟨target, iter, [test], 0⟩] scope pos) 0 it acc env)) (assign target env v) (fun _ s₂ =>
        wpAny (model prog w) (A.under (.compLoop (.ListComp elt [⟨target, iter, [test], 0⟩] scope pos) 0 it acc env)) (isTrue test env (eval test env)) (fun ok s₃ => match ok with
          | true => wpAny (model prog w) (A.under (.compLoop (.ListComp elt [⟨target, iter, [test], 0⟩] scope pos) 0 it acc env)) (eval elt env) (fun x s₄ =>
            wpAny (model prog w) (A.under (.compLoop (.ListComp elt [⟨target, iter, [test], 0⟩] scope pos) 0 it acc env)) (call (.builtin "list.append") [acc, x]) (fun _ s₅ => codeAny (model prog w) A (.compLoop (.ListComp elt [⟨target, iter, [test], 0⟩] scope pos) 0 it acc env) R s₅)
              (notedBy (model prog w) (A.under (.compLoop (.ListComp elt [⟨target, iter, [test], 0⟩] scope pos) 0 it acc env)) env fun e s' => R (.error e) s') s₄) (notedBy (model prog w) (A.under (.compLoop (.ListComp elt [⟨target, iter, [test], 0⟩] scope pos) 0 it acc env)) env fun e s' => R (.error e) s') s₃
          | false => codeAny (model prog w) A (.compLoop (.ListComp elt [⟨target, iter, [test], 0⟩] scope pos) 0 it acc env) R s₃)
          (notedBy (model prog w) (A.under (.compLoop (.ListComp elt [⟨target, iter, [test], 0⟩] scope pos) 0 it acc env)) env fun e s' => R (.error e) s') s₂) (notedBy (model prog w) (A.under (.compLoop (.ListComp elt [⟨target, iter, [test], 0⟩] scope pos) 0 it acc env)) env fun e s' => R (.error e) s') s₁)
      (notedBy (model prog w) (A.under (.compLoop (.ListComp elt [⟨target, iter, [test], 0⟩] scope pos) 0 it acc env)) env fun e s' => R (.error e) s') s) :
    codeAny (model prog w) A (.compLoop (.ListComp elt [⟨target, iter, [test], 0⟩] scope pos) 0 it acc env) R s := by
  refine codeAny_of_tree ?_
  show wpAny _ _ ((compTurn (.ListComp elt [⟨target, iter, [test], 0⟩] scope pos) 0 it acc env).onRaise (fun x => do noteFrame x env; theTreesLotGoes x)) _ _ s
  refine wpAny_noted ?_
  rw [compTurn_list]
  refine wpAny_bind (wpAny_standAt (wpAny_bind (wpAny_mono H (fun r s₁ h₁ => ?_) fun _ _ h' => h')))
  cases r with
  | none => exact wpAny_pure h₁
  | some v =>
    refine wpAny_bind (wpAny_of_eq (ht v) ?_)
    refine wpAny_bind (wpAny_mono h₁ (fun _ s₂ h₂ => wpAny_bind (wpAny_tests_one (wpAny_mono h₂ (fun ok s₃ h₃ => ?_) fun _ _ h' => h'))) fun _ _ h' => h')
    cases ok with
    | false => exact wpAny_pure ⟨rfl, h₃⟩
    | true => exact wpAny_bind (wpAny_bind (wpAny_mono h₃ (fun x s₄ h₄ => wpAny_bind (wpAny_mono h₄ (fun _ s₅ h₅ => wpAny_pure (wpAny_pure ⟨rfl, h₅⟩)) fun _ _ h' => h')) fun _ _ h' => h'))
end
section
variable {β : Type} {prog : Program} {w : World} {G : Nat → Option Obj} {k : Nat} {fs1 : Facts} {res : β → Result} {fs2 : β → Facts} {X : β → Prop}
theorem fin_again {A : Around} {fs0 C0 T : Facts} {c' : Code} (C : LCon prog w G k c' (fs1 ++ T) res fs2 X)
    {h hm h₀ : Heap} {fs : Facts} {sz szm tk : Nat} {g : Array GenState} {d : Drawn} {os : OsState} (D0 : Rep G hm (C0 ++ T) szm) (S0 : Since h₀ fs0 hm (C0 ++ T)) (is : List Nat) (hA1 : Fit k A) (D : Rep G h fs sz) (S : Since hm C0 h fs)
    (e : sel is fs = fs1) (hn : is.Nodup) : codeAny (model prog w) A c' (Post G g d os h₀ fs0 res fs2 X) ⟨h, g, d, tk, os⟩ := by
  have DS := D0.keepT S0 (e ▸ D.sel hn) (e ▸ S.sel)
  refine codeAny_mono (C A hA1 h _ _ g d os DS.1) fun r s' hp => ?_
  obtain ⟨x, h2, sz2, tk2, hr, hs, D2, S2, hX⟩ := hp
  exact ⟨x, h2, sz2, tk2, hr, hs, D2, DS.2.trans S2, hX⟩
end
end Mine
end
set_option maxHeartbeats 1000000
noncomputable section
namespace Mine
/-! ## law: the records with agents -/
noncomputable def cmR : Expr → Expr
  | .Compare _ _ cs _ => cs.getD 0 (.Constant .none 0 ⟨0, 0, 0, 0⟩)
  | e => e
noncomputable def cmL : Expr → Expr
  | .Compare l _ _ _ => l
  | e => e
noncomputable def cmP : Expr → Pos
  | .Compare _ _ _ p => p
  | e => ⟨0, 0, 0, 0⟩
noncomputable def tuE : Expr → Expr
  | .Tuple es _ _ => es.getD 0 (.Constant .none 0 ⟨0, 0, 0, 0⟩)
  | e => e
noncomputable def lcX : Expr → Expr
  | .ListComp x _ _ _ => x
  | e => e
noncomputable def lcP : Expr → Pos
  | .ListComp _ _ _ p => p
  | e => ⟨0, 0, 0, 0⟩
noncomputable def lcG : Expr → Comprehension
  | .ListComp _ g _ _ => g.getD 0 ⟨.Constant .none 0 ⟨0, 0, 0, 0⟩, .Constant .none 0 ⟨0, 0, 0, 0⟩, [], 0⟩
  | e => ⟨.Constant .none 0 ⟨0, 0, 0, 0⟩, .Constant .none 0 ⟨0, 0, 0, 0⟩, [], 0⟩
noncomputable def laX3 : Expr := tuE (cmR (retV ((bodOf laSt).getD 3 nop)))
noncomputable def la3T : Expr := (lcG laX3).ifs.getD 0 (.Constant .none 0 ⟨0, 0, 0, 0⟩)
noncomputable def la3X' : Expr := .ListComp (lcX laX3) [⟨(lcG laX3).target, (lcG laX3).iter, [la3T], 0⟩] (lcS laX3) (lcP laX3)
theorem laX3_eq : laX3 = la3X' := by kernel_rfl
theorem la3T_eq : la3T = .Compare (cmL la3T) [.NotEq] [cmR la3T] (cmP la3T) := by kernel_rfl
noncomputable def laN (L fr : Addr) : Env := cmE (lcS laX3) laQ L fr [] (.ref 131)
theorem la3_ht (it : Value) (v : Value) : letOwnedTupleGo (lcG laX3).target it v = pure () := by kernel_rfl
noncomputable def la3F (P : Params) (y : LA) (ito : Obj) (o : Option (Tok × Value)) (vs : List Value) (n : Nat) : Facts :=
  [(y.L, eaD P o), (y.it, ito), (y.R, lst y.rvs y.rn), (y.acc, lst vs n)]
noncomputable def strD (ps : Pcs) : List PyData := ps.map fun p => .str (S p.1)
theorem stv_rd (F : Facts) : ∀ ps : Pcs, RdA F (stv ps) (strD ps)
  | [] => .nil
  | _ :: ps => .cons (.str _ _) (stv_rd F ps)
noncomputable def ascD (ps : Pcs) : Prop := PyData.canLayAll0 (strD ps) = true
theorem dep_str : ∀ ps : Pcs, PyData.depthAll (strD ps) = 0
  | [] => rfl
  | _ :: ps => by
    show max 0 (PyData.depthAll (strD ps)) = 0
    rw [dep_str ps]
    rfl
theorem bm3 : behindInMarks .NotEq (cmR la3T) = false := by kernel_rfl
theorem room_one {A : Around} (hA : Fit 12 A) (c : Code) (n : Nat) : (A.under c).units + min n 1 < cLine := by
  have h1 := hA.3
  refine Nat.lt_of_le_of_lt (Nat.add_le_add (Nat.add_le_add_left (units_le c) A.units) (Nat.min_le_right n 1)) ?_
  show A.units + 10 + 1 < 9900
  omega
theorem la3_c (w : World) (y : LA) (i : Nat) (r a : Addr) (m k : Nat) (dv rv : Value) (p : List Nat × Tok) (ps : Pcs) (hps : ascD (p :: ps)) (hi : y.rvs[i]? = some (.ref r)) (b : Tok) (v : Value) (vs : List Value) (n : Nat) (hv : vs.length ≤ sizeLine) (T : Facts) (β : Type) (fs2 : β → Facts) (X : β → Prop)
    (IH : ∀ (b : Tok), LCon pw w (G w.params) 12 (laL laX3 y.L y.fr y.it y.acc) ((la3F w.params y (liO y.R (i + 1)) (some (b, .ref r)) (vs ++ [.ref r]) (n + 1) ++ [(r, lst [.ref a, dv, rv] m), (a, lst (stv (p :: ps)) k)]) ++ T) (fun _ => .ok .next) fs2 X) :
    LCon pw w (G w.params) 12 (laL laX3 y.L y.fr y.it y.acc) ((la3F w.params y (liO y.R i) (some (b, v)) vs n ++ [(r, lst [.ref a, dv, rv] m), (a, lst (stv (p :: ps)) k)]) ++ T) (fun _ => .ok .next) fs2 X := by
  intro A hA1 h sz tk g d os DD
  have EE := Since.start h ((la3F w.params y (liO y.R i) (some (b, v)) vs n ++ [(r, lst [.ref a, dv, rv] m), (a, lst (stv (p :: ps)) k)]) ++ T)
  have hA : Fit 11 (A.under (laL laX3 y.L y.fr y.it y.acc)) := under_fit hA1 rfl
  have D := DD.left
  have E0 := Since.start h (la3F w.params y (liO y.R i) (some (b, v)) vs n ++ [(r, lst [.ref a, dv, rv] m), (a, lst (stv (p :: ps)) k)])
  have hu : (A.under (laL laX3 y.L y.fr y.it y.acc)).units + 64 < cLine := by have := hA.3; show _ < 9900; omega
  refine turn_f (elt := lcX laX3) (target := (lcG laX3).target) (iter := (lcG laX3).iter) (test := la3T) (scope := lcS laX3) (pos := lcP laX3) (env := laN y.L y.fr) (la3_ht _) ?_
  refine at_next ?_
  refine gu (c_lnx y.it y.R y.rvs y.rn i (.ref r) hi) [2] [(y.1, eaD w.params (some (b, v))), (y.3, liO y.R i), (y.5, lst y.rvs y.rn), (y.4, lst vs n), (r, lst [.ref a, dv, rv] m), (a, lst (stv (p :: ps)) k)] sz tk [1,2] (hA.le (by decide)) D E0 (by kernel_rfl) ⟨by decide, by kernel_rfl, rfl⟩ (fun _ => rfl) fun r1 h1 sz1 tk1 hX1 D1 E1 => ?_
  refine gp ((some (.ref r))) [] [(y.1, eaD w.params (some (b, v))), (y.3, liO y.R (i + 1)), (y.5, lst y.rvs y.rn), (y.4, lst vs n), (r, lst [.ref a, dv, rv] m), (a, lst (stv (p :: ps)) k)] sz1 tk1 hA.1 D1 E1 (by kernel_rfl) fun h2 D2 E2 => ?_
  refine at_assign ?_
  refine gp (()) [1,1] [(y.1, dic [nt w.params k_each b (.ref r)] 1), (y.3, liO y.R (i + 1)), (y.5, lst y.rvs y.rn), (y.4, lst vs n), (r, lst [.ref a, dv, rv] m), (a, lst (stv (p :: ps)) k)] sz1 (tk1 + 1) hA.1 D2 E2 (by kernel_rfl) fun h3 D3 E3 => ?_
  rw [la3T_eq]
  refine wpAny_isTrue_Compare1 (hm := bm3) ?_
  refine at_eval ?_
  refine gu (c_lget r [.ref a, dv, rv] (.ref a) m 0 (tk1 + 1) rfl z_lt) [1,5,5,5] [(y.1, dic [nt w.params k_each b (.ref r)] 1), (y.3, liO y.R (i + 1)), (y.5, lst y.rvs y.rn), (y.4, lst vs n), (r, lst [.ref a, dv, rv] m), (a, lst (stv (p :: ps)) k)] sz1 (tk1 + 2) [4] (hA.le (by decide)) D3 E3 (by kernel_rfl) ⟨by decide, by kernel_rfl, rfl⟩ (fun _ => rfl) fun t4 h4 sz4 tk4 hX4 D4 E4 => ?_
  refine gp ((.ref a)) [] [(y.1, dic [nt w.params k_each b (.ref r)] 1), (y.3, liO y.R (i + 1)), (y.5, lst y.rvs y.rn), (y.4, lst vs n), (r, lst [.ref a, dv, rv] m), (a, lst (stv (p :: ps)) k)] sz4 tk4 hA.1 D4 E4 (by kernel_rfl) fun h5 D5 E5 => ?_
  refine at_eval ?_
  refine gp ((.ref sz4)) [] [(y.1, dic [nt w.params k_each b (.ref r)] 1), (y.3, liO y.R (i + 1)), (y.5, lst y.rvs y.rn), (y.4, lst vs n), (r, lst [.ref a, dv, rv] m), (a, lst (stv (p :: ps)) k), (sz4, lst [] 0)] (sz4 + 1) tk4 hA.1 D5 E5 (by kernel_rfl) fun h6 D6 E6 => ?_
  obtain ⟨as, ra⟩ := Rd.reads D6.has (Rd.list (a := a) (vs := stv (p :: ps)) (n := k) (xs := strD (p :: ps)) (by simp) (stv_rd _ _))
  obtain ⟨bs, rb⟩ := Rd.reads D6.has (Rd.list (a := sz4) (vs := []) (n := 0) (xs := []) (by simp) .nil)
  refine PySem.SeqAt.compareNe_reads ra rb hps rfl (room_one hA1 _ _) ?_
  refine wpAny_truthy_bool ?_
  show wpAny _ _ _ _ _ _
  refine at_eval ?_
  refine gp ((.ref r)) [1] [(y.1, dic [nt w.params k_each b (.ref r)] 1), (y.3, liO y.R (i + 1)), (y.5, lst y.rvs y.rn), (y.4, lst vs n), (r, lst [.ref a, dv, rv] m), (a, lst (stv (p :: ps)) k), (sz4, lst [] 0)] (sz4 + 1) tk4 hA.1 D6 E6 (by kernel_rfl) fun h7 D7 E7 => ?_
  show Means pw w _ _ _ (.top _) _
  refine gu (c_append y.acc (.ref r) vs n hv) [] [(y.1, dic [nt w.params k_each b (.ref r)] 1), (y.3, liO y.R (i + 1)), (y.5, lst y.rvs y.rn), (y.4, lst vs n), (r, lst [.ref a, dv, rv] m), (a, lst (stv (p :: ps)) k), (sz4, lst [] 0)] (sz4 + 1) tk4 [3] (hA.le (by decide)) D7 E7 (by kernel_rfl) ⟨by decide, by kernel_rfl, rfl⟩ (fun _ => rfl) fun r8 h8 sz8 tk8 hX8 D8 E8 => ?_
  refine gp (.none) [] [(y.1, dic [nt w.params k_each b (.ref r)] 1), (y.3, liO y.R (i + 1)), (y.5, lst y.rvs y.rn), (y.4, lst (vs ++ [.ref r]) (n + 1)), (r, lst [.ref a, dv, rv] m), (a, lst (stv (p :: ps)) k), (sz4, lst [] 0)] sz8 tk8 hA.1 D8 E8 (by kernel_rfl) fun h9 D9 E9 => ?_
  exact fin_again (IH b) DD EE [0,1,2,3,4,5] hA1 D9 E9 (by kernel_rfl) (by decide)
theorem la3_n (w : World) (y : LA) (i : Nat) (r a : Addr) (m k : Nat) (dv rv : Value) (hi : y.rvs[i]? = some (.ref r)) (b : Tok) (v : Value) (vs : List Value) (n : Nat) (T : Facts) (β : Type) (fs2 : β → Facts) (X : β → Prop)
    (IH : ∀ (b : Tok), LCon pw w (G w.params) 12 (laL laX3 y.L y.fr y.it y.acc) ((la3F w.params y (liO y.R (i + 1)) (some (b, .ref r)) vs n ++ [(r, lst [.ref a, dv, rv] m), (a, lst [] k)]) ++ T) (fun _ => .ok .next) fs2 X) :
    LCon pw w (G w.params) 12 (laL laX3 y.L y.fr y.it y.acc) ((la3F w.params y (liO y.R i) (some (b, v)) vs n ++ [(r, lst [.ref a, dv, rv] m), (a, lst [] k)]) ++ T) (fun _ => .ok .next) fs2 X := by
  intro A hA1 h sz tk g d os DD
  have EE := Since.start h ((la3F w.params y (liO y.R i) (some (b, v)) vs n ++ [(r, lst [.ref a, dv, rv] m), (a, lst [] k)]) ++ T)
  have hA : Fit 11 (A.under (laL laX3 y.L y.fr y.it y.acc)) := under_fit hA1 rfl
  have D := DD.left
  have E0 := Since.start h (la3F w.params y (liO y.R i) (some (b, v)) vs n ++ [(r, lst [.ref a, dv, rv] m), (a, lst [] k)])
  refine turn_f (elt := lcX laX3) (target := (lcG laX3).target) (iter := (lcG laX3).iter) (test := la3T) (scope := lcS laX3) (pos := lcP laX3) (env := laN y.L y.fr) (la3_ht _) ?_
  refine at_next ?_
  refine gu (c_lnx y.it y.R y.rvs y.rn i (.ref r) hi) [2] [(y.1, eaD w.params (some (b, v))), (y.3, liO y.R i), (y.5, lst y.rvs y.rn), (y.4, lst vs n), (r, lst [.ref a, dv, rv] m), (a, lst [] k)] sz tk [1,2] (hA.le (by decide)) D E0 (by kernel_rfl) ⟨by decide, by kernel_rfl, rfl⟩ (fun _ => rfl) fun r1 h1 sz1 tk1 hX1 D1 E1 => ?_
  refine gp ((some (.ref r))) [] [(y.1, eaD w.params (some (b, v))), (y.3, liO y.R (i + 1)), (y.5, lst y.rvs y.rn), (y.4, lst vs n), (r, lst [.ref a, dv, rv] m), (a, lst [] k)] sz1 tk1 hA.1 D1 E1 (by kernel_rfl) fun h2 D2 E2 => ?_
  refine at_assign ?_
  refine gp (()) [1,1] [(y.1, dic [nt w.params k_each b (.ref r)] 1), (y.3, liO y.R (i + 1)), (y.5, lst y.rvs y.rn), (y.4, lst vs n), (r, lst [.ref a, dv, rv] m), (a, lst [] k)] sz1 (tk1 + 1) hA.1 D2 E2 (by kernel_rfl) fun h3 D3 E3 => ?_
  rw [la3T_eq]
  refine wpAny_isTrue_Compare1 (hm := bm3) ?_
  refine at_eval ?_
  refine gu (c_lget r [.ref a, dv, rv] (.ref a) m 0 (tk1 + 1) rfl z_lt) [1,5,5,5] [(y.1, dic [nt w.params k_each b (.ref r)] 1), (y.3, liO y.R (i + 1)), (y.5, lst y.rvs y.rn), (y.4, lst vs n), (r, lst [.ref a, dv, rv] m), (a, lst [] k)] sz1 (tk1 + 2) [4] (hA.le (by decide)) D3 E3 (by kernel_rfl) ⟨by decide, by kernel_rfl, rfl⟩ (fun _ => rfl) fun t4 h4 sz4 tk4 hX4 D4 E4 => ?_
  refine gp ((.ref a)) [] [(y.1, dic [nt w.params k_each b (.ref r)] 1), (y.3, liO y.R (i + 1)), (y.5, lst y.rvs y.rn), (y.4, lst vs n), (r, lst [.ref a, dv, rv] m), (a, lst [] k)] sz4 tk4 hA.1 D4 E4 (by kernel_rfl) fun h5 D5 E5 => ?_
  refine at_eval ?_
  refine gp ((.ref sz4)) [] [(y.1, dic [nt w.params k_each b (.ref r)] 1), (y.3, liO y.R (i + 1)), (y.5, lst y.rvs y.rn), (y.4, lst vs n), (r, lst [.ref a, dv, rv] m), (a, lst [] k), (sz4, lst [] 0)] (sz4 + 1) tk4 hA.1 D5 E5 (by kernel_rfl) fun h6 D6 E6 => ?_
  obtain ⟨as, ra⟩ := Rd.reads D6.has (Rd.list (a := a) (vs := []) (n := k) (xs := []) (by simp) .nil)
  obtain ⟨bs, rb⟩ := Rd.reads D6.has (Rd.list (a := sz4) (vs := []) (n := 0) (xs := []) (by simp) .nil)
  refine PySem.SeqAt.compareNe_reads ra rb rfl rfl (room_one hA1 _ _) ?_
  refine wpAny_truthy_bool ?_
  exact fin_again (IH b) DD EE [0,1,2,3,4,5] hA1 D6 E6 (by kernel_rfl) (by decide)
theorem la3_0 (w : World) (y : LA) (r0 a0 tp : Addr) (t5 ta tb : Tok) (hi : y.rvs[0]? = some (.ref r0)) (hps : ascD [([97, 32, 98], ta), ([], tb)]) (vs : List Value) (n : Nat) (hv : vs.length ≤ sizeLine) (T : Facts) (β : Type) (fs2 : β → Facts) (X : β → Prop)
    (IH : ∀ (b : Tok), LCon pw w (G w.params) 12 (laL laX3 y.L y.fr y.it y.acc) ((la3F w.params y (liO y.R (0 + 1)) (some (b, .ref r0)) (vs ++ [.ref r0]) (n + 1) ++ [(r0, lst [.ref a0, .int 5 t5, .ref tp] 0), (a0, lst [.str (S [97, 32, 98]) ta, .str (S []) tb] 0)]) ++ T) (fun _ => .ok .next) fs2 X) :
    LCon pw w (G w.params) 12 (laL laX3 y.L y.fr y.it y.acc) ((la3F w.params y (liO y.R 0) none vs n ++ [(r0, lst [.ref a0, .int 5 t5, .ref tp] 0), (a0, lst [.str (S [97, 32, 98]) ta, .str (S []) tb] 0)]) ++ T) (fun _ => .ok .next) fs2 X := by
  intro A hA1 h sz tk g d os DD
  have EE := Since.start h ((la3F w.params y (liO y.R 0) none vs n ++ [(r0, lst [.ref a0, .int 5 t5, .ref tp] 0), (a0, lst [.str (S [97, 32, 98]) ta, .str (S []) tb] 0)]) ++ T)
  have hA : Fit 11 (A.under (laL laX3 y.L y.fr y.it y.acc)) := under_fit hA1 rfl
  have D := DD.left
  have E0 := Since.start h (la3F w.params y (liO y.R 0) none vs n ++ [(r0, lst [.ref a0, .int 5 t5, .ref tp] 0), (a0, lst [.str (S [97, 32, 98]) ta, .str (S []) tb] 0)])
  refine turn_f (elt := lcX laX3) (target := (lcG laX3).target) (iter := (lcG laX3).iter) (test := la3T) (scope := lcS laX3) (pos := lcP laX3) (env := laN y.L y.fr) (la3_ht _) ?_
  refine at_next ?_
  refine gu (c_lnx y.it y.R y.rvs y.rn 0 (.ref r0) hi) [2] [(y.1, eaD w.params none), (y.3, liO y.R 0), (y.5, lst y.rvs y.rn), (y.4, lst vs n), (r0, lst [.ref a0, .int 5 t5, .ref tp] 0), (a0, lst [.str (S [97, 32, 98]) ta, .str nilS tb] 0)] sz tk [1,2] (hA.le (by decide)) D E0 (by kernel_rfl) ⟨by decide, by kernel_rfl, rfl⟩ (fun _ => rfl) fun r1 h1 sz1 tk1 hX1 D1 E1 => ?_
  refine gp ((some (.ref r0))) [] [(y.1, eaD w.params none), (y.3, liO y.R (0 + 1)), (y.5, lst y.rvs y.rn), (y.4, lst vs n), (r0, lst [.ref a0, .int 5 t5, .ref tp] 0), (a0, lst [.str (S [97, 32, 98]) ta, .str nilS tb] 0)] sz1 tk1 hA.1 D1 E1 (by kernel_rfl) fun h2 D2 E2 => ?_
  refine at_assign ?_
  refine gp (()) [1,1] [(y.1, dic [nt w.params k_each tk1 (.ref r0)] 1), (y.3, liO y.R (0 + 1)), (y.5, lst y.rvs y.rn), (y.4, lst vs n), (r0, lst [.ref a0, .int 5 t5, .ref tp] 0), (a0, lst [.str (S [97, 32, 98]) ta, .str nilS tb] 0)] sz1 (tk1 + 1) hA.1 D2 E2 (by kernel_rfl) fun h3 D3 E3 => ?_
  rw [la3T_eq]
  refine wpAny_isTrue_Compare1 (hm := bm3) ?_
  refine at_eval ?_
  refine gu (c_lget r0 [.ref a0, .int 5 t5, .ref tp] (.ref a0) 0 0 (tk1 + 1) rfl z_lt) [1,5,5,5] [(y.1, dic [nt w.params k_each tk1 (.ref r0)] 1), (y.3, liO y.R (0 + 1)), (y.5, lst y.rvs y.rn), (y.4, lst vs n), (r0, lst [.ref a0, .int 5 t5, .ref tp] 0), (a0, lst [.str (S [97, 32, 98]) ta, .str nilS tb] 0)] sz1 (tk1 + 2) [4] (hA.le (by decide)) D3 E3 (by kernel_rfl) ⟨by decide, by kernel_rfl, rfl⟩ (fun _ => rfl) fun t4 h4 sz4 tk4 hX4 D4 E4 => ?_
  refine gp ((.ref a0)) [] [(y.1, dic [nt w.params k_each tk1 (.ref r0)] 1), (y.3, liO y.R (0 + 1)), (y.5, lst y.rvs y.rn), (y.4, lst vs n), (r0, lst [.ref a0, .int 5 t5, .ref tp] 0), (a0, lst [.str (S [97, 32, 98]) ta, .str nilS tb] 0)] sz4 tk4 hA.1 D4 E4 (by kernel_rfl) fun h5 D5 E5 => ?_
  refine at_eval ?_
  refine gp ((.ref sz4)) [] [(y.1, dic [nt w.params k_each tk1 (.ref r0)] 1), (y.3, liO y.R (0 + 1)), (y.5, lst y.rvs y.rn), (y.4, lst vs n), (r0, lst [.ref a0, .int 5 t5, .ref tp] 0), (a0, lst [.str (S [97, 32, 98]) ta, .str nilS tb] 0), (sz4, lst [] 0)] (sz4 + 1) tk4 hA.1 D5 E5 (by kernel_rfl) fun h6 D6 E6 => ?_
  obtain ⟨as, ra⟩ := Rd.reads D6.has (Rd.list (a := a0) (vs := [.str (S [97, 32, 98]) ta, .str (S []) tb]) (n := 0) (xs := strD [([97, 32, 98], ta), ([], tb)]) (.tail _ (.tail _ (.tail _ (.tail _ (.tail _ (.head _)))))) (stv_rd _ [([97, 32, 98], ta), ([], tb)]))
  obtain ⟨bs, rb⟩ := Rd.reads D6.has (Rd.list (a := sz4) (vs := []) (n := 0) (xs := []) (.tail _ (.tail _ (.tail _ (.tail _ (.tail _ (.tail _ (.head _))))))) .nil)
  refine PySem.SeqAt.compareNe_reads ra rb hps rfl (room_one hA1 _ _) ?_
  refine wpAny_truthy_bool ?_
  show wpAny _ _ _ _ _ _
  refine at_eval ?_
  refine gp ((.ref r0)) [1] [(y.1, dic [nt w.params k_each tk1 (.ref r0)] 1), (y.3, liO y.R (0 + 1)), (y.5, lst y.rvs y.rn), (y.4, lst vs n), (r0, lst [.ref a0, .int 5 t5, .ref tp] 0), (a0, lst [.str (S [97, 32, 98]) ta, .str nilS tb] 0), (sz4, lst [] 0)] (sz4 + 1) tk4 hA.1 D6 E6 (by kernel_rfl) fun h7 D7 E7 => ?_
  show Means pw w _ _ _ (.top _) _
  refine gu (c_append y.acc (.ref r0) vs n hv) [] [(y.1, dic [nt w.params k_each tk1 (.ref r0)] 1), (y.3, liO y.R (0 + 1)), (y.5, lst y.rvs y.rn), (y.4, lst vs n), (r0, lst [.ref a0, .int 5 t5, .ref tp] 0), (a0, lst [.str (S [97, 32, 98]) ta, .str nilS tb] 0), (sz4, lst [] 0)] (sz4 + 1) tk4 [3] (hA.le (by decide)) D7 E7 (by kernel_rfl) ⟨by decide, by kernel_rfl, rfl⟩ (fun _ => rfl) fun r8 h8 sz8 tk8 hX8 D8 E8 => ?_
  refine gp (.none) [] [(y.1, dic [nt w.params k_each tk1 (.ref r0)] 1), (y.3, liO y.R (0 + 1)), (y.5, lst y.rvs y.rn), (y.4, lst (vs ++ [.ref r0]) (n + 1)), (r0, lst [.ref a0, .int 5 t5, .ref tp] 0), (a0, lst [.str (S [97, 32, 98]) ta, .str nilS tb] 0), (sz4, lst [] 0)] sz8 tk8 hA.1 D8 E8 (by kernel_rfl) fun h9 D9 E9 => ?_
  exact fin_again (IH tk1) DD EE [0,1,2,3,4,5] hA1 D9 E9 (by kernel_rfl) (by decide)
theorem la3_e (w : World) (y : LA) (i : Nat) (hi : y.rvs[i]? = none) (b : Tok) (v : Value) (vs : List Value) (n : Nat) :
    LCon pw w (G w.params) 12 (laL laX3 y.L y.fr y.it y.acc) (la3F w.params y (liO y.R i) (some (b, v)) vs n) (fun _ : Unit => .ok .next) (fun _ => la3F w.params y (liX i) (some (b, v)) vs n) (fun _ => True) := by
  refine lcon_in rfl fun A hA hA1 h sz tk g d os D E0 => ?_
  refine gu (c_lnE y.it y.R y.rvs y.rn i hi) [2] [(y.1, eaD w.params (some (b, v))), (y.3, liO y.R i), (y.5, lst y.rvs y.rn), (y.4, lst vs n)] sz tk [1,2] (hA.le (by decide)) D E0 (by kernel_rfl) ⟨by decide, by kernel_rfl, rfl⟩ (fun _ => rfl) fun y1 h1 sz1 tk1 hX1 D1 E1 => ?_
  exact gf (()) [6] [0,1,2,3] hA D1 E1 (by kernel_rfl) (by decide) rfl (trivial)
end Mine
end
set_option maxHeartbeats 1000000
noncomputable section
namespace Mine
theorem strOk_of {l : List Nat} (h : ∀ c ∈ l, c < 0x110000) : PyData.canLay0 (.str (S l)) = true := by
  show (⟨l⟩ : Array Nat).all (· < 0x110000) = true
  simp only [List.all_toArray, List.all_eq_true, decide_eq_true_eq]
  exact h
theorem asc_ok : ∀ (ps : Pcs), (∀ q ∈ ps, okP q) → ascD ps
  | [], _ => rfl
  | p :: ps, h => by
    have h1 := h p (.head _)
    have h2 : PyData.canLayAll0 (strD ps) = true := asc_ok ps fun q hq => h q (.tail _ hq)
    show (PyData.canLay0 (.str (S p.1)) && PyData.canLayAll0 (strD ps)) = true
    rw [h2, Bool.and_true]
    exact strOk_of fun c hc => Nat.lt_trans (h1.1 c hc) (by decide)
noncomputable def hasAg (o : RO) : Bool := match o.ps with
  | [] => false
  | _ :: _ => true
noncomputable def agRefs (l : List RO) : List Value := (l.filter hasAg).map fun o => .ref o.r
structure LA3 where
  (b : Tok)
  v : Value
  n : Nat
theorem la3_loop (w : World) (L fr it acc R r0 : Addr) (rn : Nat) (P0 : Facts) : ∀ (l2 l1 : List RO) (b : Tok) (v : Value) (vs : List Value) (n : Nat), (∀ q ∈ l2, okR q) → vs.length + l2.length ≤ 1000 →
    LCon pw w (G w.params) 12 (laL laX3 L fr it acc) ((la3F w.params ⟨L, fr, it, acc, R, refs r0 (l1 ++ l2), rn⟩ (liO R (l1.length + 1)) (some (b, v)) vs n ++ P0) ++ ROs (l1 ++ l2)) (fun _ : LA3 => .ok .next)
      (fun r => (la3F w.params ⟨L, fr, it, acc, R, refs r0 (l1 ++ l2), rn⟩ (liX ((l1 ++ l2).length + 1)) (some (r.b, r.v)) (vs ++ agRefs l2) r.n ++ P0) ++ ROs (l1 ++ l2)) (fun r => True)
  | [], l1, b, v, vs, n, hq, hl => by
    rw [List.append_nil]
    have K := ((la3_e w ⟨L, fr, it, acc, R, refs r0 l1, rn⟩ (l1.length + 1) (refs_end r0 l1) b v vs n).frame P0).frame (ROs l1)
    refine K.map (fun _ => ⟨b, v, n⟩) fun _ _ => ⟨rfl, ?_, trivial⟩
    show _ = (la3F _ _ _ _ (vs ++ []) _ ++ P0) ++ _
    rw [List.append_nil]
  | o :: l2, l1, b, v, vs, n, hq, hl => by
    rw [List.length_cons] at hl
    have ho := hq o (.head _)
    have e1 : l1 ++ o :: l2 = (l1 ++ [o]) ++ l2 := by simp
    have hp : ((la3F w.params ⟨L, fr, it, acc, R, refs r0 (l1 ++ o :: l2), rn⟩ (liO R (l1.length + 1)) (some (b, v)) vs n ++ P0) ++ ROs (l1 ++ o :: l2)).Perm ((la3F w.params ⟨L, fr, it, acc, R, refs r0 (l1 ++ o :: l2), rn⟩ (liO R (l1.length + 1)) (some (b, v)) vs n ++ o.fs) ++ (P0 ++ (ROs l1 ++ ROs l2))) := by
      rw [ROs_mid]
      exact perm_b _ _ _ _ _
    have nxt : ∀ (us : List Value) (b : Tok) (n' : Nat), us.length ≤ 1 → us ++ agRefs l2 = agRefs (o :: l2) → LCon pw w (G w.params) 12 (laL laX3 L fr it acc) ((la3F w.params ⟨L, fr, it, acc, R, refs r0 (l1 ++ o :: l2), rn⟩ (liO R (l1.length + 1 + 1)) (some (b, .ref o.r)) (vs ++ us) n' ++ o.fs) ++ (P0 ++ (ROs l1 ++ ROs l2))) (fun _ : LA3 => .ok .next)
      (fun r => (la3F w.params ⟨L, fr, it, acc, R, refs r0 (l1 ++ o :: l2), rn⟩ (liX ((l1 ++ o :: l2).length + 1)) (some (r.b, r.v)) (vs ++ agRefs (o :: l2)) r.n ++ P0) ++ ROs (l1 ++ o :: l2)) (fun r => True) := fun us b n' hu hus => by
      have K := la3_loop w L fr it acc R r0 rn P0 l2 (l1 ++ [o]) b (.ref o.r) (vs ++ us) n' (fun q h => hq q (.tail _ h)) (by rw [List.length_append]; omega)
      rw [← e1, List.length_append] at K
      refine ((K.perm1 ?_).map id fun r hr => ⟨rfl, ?_, trivial⟩)
      · rw [ROs_mid]
        exact (perm_b _ _ _ _ _).symm
      · show (la3F _ _ _ _ (vs ++ us ++ agRefs l2) _ ++ P0) ++ _ = (la3F _ _ _ _ (vs ++ agRefs (o :: l2)) _ ++ P0) ++ _
        rw [List.append_assoc vs, hus]
        rfl
    refine LCon.perm1 ?_ hp
    have hv : vs.length ≤ sizeLine := by show _ ≤ 2 ^ 24; omega
    obtain ⟨r, a, m, k, ps, dl⟩ := o
    cases ps with
    | nil =>
      refine la3_n w ⟨L, fr, it, acc, R, refs r0 (l1 ++ ⟨r, a, m, k, [], dl⟩ :: l2), rn⟩ (l1.length + 1) r a m k (dvOf dl) .none (refs_get r0 l1 l2 _) b v vs n _ _ _ _ fun b' => ?_
      have := nxt [] b' n (Nat.zero_le _) rfl
      rw [List.append_nil vs] at this
      exact this
    | cons p ps => exact la3_c w ⟨L, fr, it, acc, R, refs r0 (l1 ++ ⟨r, a, m, k, p :: ps, dl⟩ :: l2), rn⟩ (l1.length + 1) r a m k (dvOf dl) .none p ps (asc_ok _ fun q h => (ho.ok q h).1) (refs_get r0 l1 l2 _) b v vs n hv _ _ _ _ fun b' => nxt [.ref r] b' (n + 1) (Nat.le_refl 1) rfl
noncomputable def q0F (r0 a0 tp : Addr) (t5 ta tb : Tok) : Facts := [(r0, lst [.ref a0, .int 5 t5, .ref tp] 0), (a0, lst [.str (S [97, 32, 98]) ta, .str (S []) tb] 0)]
theorem la3_all (w : World) (L fr it acc R r0 a0 tp : Addr) (t5 ta tb : Tok) (rn : Nat) (all : List RO) (hq : ∀ q ∈ all, okR q) (hl : all.length ≤ 900) :
    LCon pw w (G w.params) 12 (laL laX3 L fr it acc) ((la3F w.params ⟨L, fr, it, acc, R, refs r0 all, rn⟩ (liO R 0) none [] 0 ++ q0F r0 a0 tp t5 ta tb) ++ ROs all) (fun _ : LA3 => .ok .next)
      (fun r => (la3F w.params ⟨L, fr, it, acc, R, refs r0 all, rn⟩ (liX (all.length + 1)) (some (r.b, r.v)) (.ref r0 :: agRefs all) r.n ++ q0F r0 a0 tp t5 ta tb) ++ ROs all) (fun r => True) := by
  have hps : ascD [([97, 32, 98], ta), ([], tb)] := asc_ok _ fun q hq => by
    simp only [List.mem_cons, List.not_mem_nil, or_false] at hq
    rcases hq with rfl | rfl
    · refine ⟨fun c hc => ?_, Nat.le_refl 3⟩
      simp only [List.mem_cons, List.not_mem_nil, or_false] at hc
      omega
    · exact ⟨fun c hc => (nomatch hc), Nat.zero_le _⟩
  refine la3_0 w ⟨L, fr, it, acc, R, refs r0 all, rn⟩ r0 a0 tp t5 ta tb rfl hps [] 0 (Nat.zero_le _) (ROs all) _ _ _ fun b => ?_
  have K := la3_loop w L fr it acc R r0 rn (q0F r0 a0 tp t5 ta tb) all [] b (.ref r0) ([] ++ [.ref r0]) (0 + 1) hq (by show 1 + _ ≤ 1000; omega)
  exact K.map id fun r hr => ⟨rfl, rfl, trivial⟩
theorem la3_k (w : World) (L fr it acc R r0 a0 tp : Addr) (t5 ta tb : Tok) (rn : Nat) (all : List RO) (hq : ∀ q ∈ all, okR q) (hl : all.length ≤ 900) :
    LCon pw w (G w.params) 13 (laK laX3 L fr it acc) ((la3F w.params ⟨L, fr, it, acc, R, refs r0 all, rn⟩ (liO R 0) none [] 0 ++ q0F r0 a0 tp t5 ta tb) ++ ROs all) (fun _ : LA3 => .ok .next)
      (fun r => (la3F w.params ⟨L, fr, it, acc, R, refs r0 all, rn⟩ (liX (all.length + 1)) (some (r.b, r.v)) (.ref r0 :: agRefs all) r.n ++ q0F r0 a0 tp t5 ta tb) ++ ROs all) (fun r => True) := by
  induction w using tv_all with
  | ht w =>
    refine lcon_in rfl fun A hA hA1 h sz tk g d os DD EE => ?_
    have D := DD.left
    have E0 := Since.start h (la3F (tv w true).params ⟨L, fr, it, acc, R, refs r0 all, rn⟩ (liO R 0) none [] 0 ++ q0F r0 a0 tp t5 ta tb)
    exact gaT (la3_all (tv w true) L fr it acc R r0 a0 tp t5 ta tb rn all hq hl) DD EE [] [0,1,2,3,4,5] hA (hA1.le (by decide)) D E0 (by kernel_rfl) (by decide) (by kernel_rfl)
  | hf w =>
    refine lcon_in rfl fun A hA hA1 h sz tk g d os DD EE => ?_
    have D := DD.left
    have E0 := Since.start h (la3F (tv w false).params ⟨L, fr, it, acc, R, refs r0 all, rn⟩ (liO R 0) none [] 0 ++ q0F r0 a0 tp t5 ta tb)
    exact gaT (la3_all (tv w false) L fr it acc R r0 a0 tp t5 ta tb rn all hq hl) DD EE [2,2,0,2,0,2] [0,1,2,3,4,5] hA (hA1.le (by decide)) D E0 (by generalize w = w'; revert w'; exact tw_fa (by kernel_rfl) (by kernel_rfl)) (by decide) (by kernel_rfl)
end Mine
end
set_option maxHeartbeats 1000000
noncomputable section
namespace Mine
/-! ## the page, in Lean -/
noncomputable def itT : It → List Nat
  | .ua way u => tUAs ++ spell way u
  | .cd N => tCDs ++ dig N
  | .rr => tRRs ++ [51, 47, 52]
  | .al => tAL
noncomputable def pg (its : List It) : List Nat := keyT its ++ aft its
noncomputable def notAl : It → Prop
  | .al => False
  | _ => True
theorem pg_cons (it : It) (its : List It) (h : notAl it) : pg (it :: its) = itT it ++ 10 :: pg its := by
  cases it with
  | ua way u =>
    show (tUA ++ [32]) ++ (spell way u ++ 10 :: (keyT its ++ aft its)) = (tUAs ++ spell way u) ++ 10 :: (keyT its ++ aft its)
    rw [List.append_assoc tUAs]
    rfl
  | cd N =>
    show (tCD ++ [32]) ++ (dig N ++ 10 :: (keyT its ++ aft its)) = (tCDs ++ dig N) ++ 10 :: (keyT its ++ aft its)
    rw [List.append_assoc tCDs]
    rfl
  | rr => rfl
  | al => exact h.elim
theorem pg_al1 : pg [.al] = tAL := rfl
theorem pg_al2 (it : It) (its : List It) : pg (.al :: it :: its) = tAL ++ ([10, 10] ++ pg (it :: its)) := by
  show (tAL ++ [10]) ++ (10 :: (keyT (it :: its) ++ aft (it :: its))) = _
  rw [List.append_assoc]
  rfl
theorem jn_cons (sep p q : List Nat) (l : List (List Nat)) : jn sep (p :: q :: l) = p ++ sep ++ jn sep (q :: l) := rfl
theorem jn_ne (sep p : List Nat) {l : List (List Nat)} (h : l ≠ []) : jn sep (p :: l) = p ++ (sep ++ jn sep l) := by
  cases l with
  | nil => exact absurd rfl h
  | cons q l => rw [jn_cons, List.append_assoc]
theorem pg_rec1 : ∀ (l : List It), (∀ it ∈ l, notAl it) → pg (l ++ [It.al]) = jn [10] ((l ++ [It.al]).map itT)
  | [], _ => rfl
  | it :: l, h => by
    rw [List.cons_append, pg_cons _ _ (h it (.head _)), pg_rec1 l fun i hi => h i (.tail _ hi), List.map_cons, jn_ne _ _ (by simp)]
    rfl
theorem pg_rec2 (it2 : It) (rest : List It) : ∀ (l : List It), (∀ it ∈ l, notAl it) → pg (l ++ .al :: it2 :: rest) = jn [10] ((l ++ [It.al]).map itT) ++ ([10, 10] ++ pg (it2 :: rest))
  | [], _ => by
    show pg (.al :: it2 :: rest) = tAL ++ _
    rw [pg_al2]
  | it :: l, h => by
    show pg (it :: (l ++ .al :: it2 :: rest)) = jn [10] (itT it :: (l ++ [It.al]).map itT) ++ _
    rw [pg_cons _ _ (h it (.head _)), pg_rec2 it2 rest l fun i hi => h i (.tail _ hi), jn_ne [10] (itT it) (by simp)]
    simp
/-- a page of records -/
theorem pg_all : ∀ (ls : List (List It)), (∀ l ∈ ls, ∀ it ∈ l, notAl it) → ls ≠ [] → pg (ls.flatMap fun l => l ++ [It.al]) = jn [10, 10] (ls.map fun l => jn [10] ((l ++ [It.al]).map itT))
  | [], _, h => absurd rfl h
  | [l], h, _ => by
    have e : ([l].flatMap fun l => l ++ [It.al]) = l ++ [It.al] := by simp
    rw [e]
    exact pg_rec1 l (h l (.head _))
  | l :: l' :: ls, h, _ => by
    have ih := pg_all (l' :: ls) (fun x hx => h x (.tail _ hx)) (by simp)
    have e : ((l :: l' :: ls).flatMap fun l => l ++ [It.al]) = l ++ .al :: ((l' :: ls).flatMap fun l => l ++ [It.al]) := by simp
    rw [e, List.map_cons, jn_ne _ _ (by simp), ← ih]
    have hne : ∃ it2 rest, ((l' :: ls).flatMap fun l => l ++ [It.al]) = it2 :: rest := by
      cases l' with
      | nil => exact ⟨_, _, rfl⟩
      | cons a l' => exact ⟨_, _, rfl⟩
    obtain ⟨it2, rest, e2⟩ := hne
    rw [e2]
    exact pg_rec2 it2 rest l (h l (.head _))
noncomputable def uaIts (us : List (List Nat)) : List It := (List.range' 0 us.length).map fun i => .ua (i % 3) (us.getD i [])
noncomputable def cdIts (dl : Option Nat) : List It := match dl with
  | none => []
  | some N => [.cd N]
noncomputable def preR (c : Rc) : List It := uaIts c.us ++ cdIts c.dl
noncomputable def pre0 : List It := [.ua 0 [97, 32, 98], .ua 1 [], .cd 5, .rr]
noncomputable def ag (c : Rc) : Bool := match c.us with
  | [] => false
  | _ :: _ => true
noncomputable def allIts (cs : List Rc) : List It := (pre0 :: (cs.filter ag).map preR).flatMap fun l => l ++ [It.al]
theorem uaIts_txt (us : List (List Nat)) : (uaIts us).map itT = (spl us).map fun q => tUAs ++ q := by
  unfold uaIts spl
  rw [List.map_map, List.map_map]
  rfl
theorem preR_txt (c : Rc) (h : ag c = true) : jn [10] ((preR c ++ [It.al]).map itT) = recT c.us (midT c.dl) := by
  obtain ⟨us, dl⟩ := c
  cases us with
  | nil => cases h
  | cons u us =>
    show _ = jn [10] (enR (spl (u :: us)) (midT dl))
    unfold preR enR
    rw [List.map_append, List.map_append, uaIts_txt]
    cases dl <;> rfl
theorem pre0_txt : jn [10] ((pre0 ++ [It.al]).map itT) = tx0 := by
  have : dig 5 = [53] := dig5
  show jn [10] [tUAs ++ spell 0 [97, 32, 98], tUAs ++ spell 1 [], tCDs ++ dig 5, tRRs ++ [51, 47, 52], tAL] = _
  rw [this]
  rfl
theorem preR_no (c : Rc) : ∀ it ∈ preR c, notAl it := by
  intro it hit
  rcases List.mem_append.mp hit with h | h
  · obtain ⟨i, _, rfl⟩ := List.mem_map.mp h
    trivial
  · obtain ⟨us, dl⟩ := c
    cases dl with
    | none => cases h
    | some N => cases List.mem_singleton.mp h; trivial
theorem page_eq (cs : List Rc) : pg (allIts cs) = jn [10, 10] (tx0 :: (cs.filter ag).map fun c => recT c.us (midT c.dl)) := by
  unfold allIts
  rw [pg_all _ (fun l hl => ?_) (by simp), List.map_cons, pre0_txt, List.map_map]
  · congr 2
    apply List.map_congr_left
    intro c hc
    exact preR_txt c (List.mem_filter.mp hc).2
  · rcases List.mem_cons.mp hl with rfl | hl
    · intro it hit
      simp only [pre0, List.mem_cons, List.not_mem_nil, or_false] at hit
      rcases hit with rfl | rfl | rfl | rfl <;> trivial
    · obtain ⟨c, _, rfl⟩ := List.mem_map.mp hl
      exact preR_no c
/-! ### read back -/
structure okC (c : Rc) : Prop where
  ok : ∀ u ∈ c.us, u.length ≤ 3 ∧ ∀ d ∈ u, d < 128 ∧ okc d
  dl : ∀ N, c.dl = some N → N < 1000
  len : c.us.length ≤ 100
noncomputable def dlD (dl : Option Nat) : PyData := match dl with
  | none => .none
  | some N => .int N
noncomputable def dOf (c : Rc) : PyData := .list [.list (c.us.map fun u => .str (S u)), dlD c.dl, .none]
noncomputable def d0 : PyData := .list [.list [.str (S [97, 32, 98]), .str (S [])], .int 5, .tuple [.int 3, .int 4]]
theorem wf_ua (rest : List It) (b di rn : Bool) : ∀ (l : List (Nat × List Nat)) (fr : Bool), (∀ p ∈ l, ∀ c ∈ p.2, okc c) → (∀ fr', Wf rest b di rn fr') → Wf ((l.map fun p => It.ua p.1 p.2) ++ rest) b di rn fr
  | [], fr, _, h => h fr
  | p :: l, fr, hp, h => ⟨hp p (.head _), wf_ua rest b di rn l false (fun q hq => hp q (.tail _ hq)) h⟩
noncomputable def uaL (us : List (List Nat)) : List (Nat × List Nat) := (List.range' 0 us.length).map fun i => (i % 3, us.getD i [])
theorem uaL_eq (us : List (List Nat)) : uaIts us = (uaL us).map fun p => It.ua p.1 p.2 := by
  unfold uaIts uaL
  rw [List.map_map]
  rfl
theorem uaL_snd (us : List (List Nat)) : (uaL us).map (·.2) = us := by
  unfold uaL
  rw [List.map_map]
  exact (map_getD [] id us).trans (List.map_id us)
theorem wf_recs : ∀ (cs : List Rc), (∀ c ∈ cs, okC c) → Wf ((cs.map preR).flatMap fun l => l ++ [It.al]) false false true true
  | [], _ => rfl
  | c :: cs, h => by
    have hc := h c (.head _)
    have ih := wf_recs cs fun c' h' => h c' (.tail _ h')
    have e : (((c :: cs).map preR).flatMap fun l => l ++ [It.al]) = ((uaL c.us).map fun p => It.ua p.1 p.2) ++ (cdIts c.dl ++ .al :: ((cs.map preR).flatMap fun l => l ++ [It.al])) := by
      rw [List.map_cons, List.flatMap_cons]
      unfold preR
      rw [uaL_eq]
      simp
    rw [e]
    refine wf_ua _ _ _ _ _ _ (fun p hp d hd => ?_) fun fr' => ?_
    · have : p.2 ∈ c.us := by
        rw [← uaL_snd c.us]
        exact List.mem_map_of_mem hp
      exact ((hc.ok p.2 this).2 d hd).2
    · obtain ⟨us, dl⟩ := c
      cases dl with
      | none => exact ih
      | some N => exact ⟨hc.dl N rfl, rfl, ih⟩
theorem wf_all (cs : List Rc) (h : ∀ c ∈ cs, okC c) : Wf (allIts cs) true false true true := by
  have K := wf_recs (cs.filter ag) fun c hc => h c (List.mem_filter.mp hc).1
  show Wf (.ua 0 [97, 32, 98] :: .ua 1 [] :: .cd 5 :: .rr :: .al :: (((cs.filter ag).map preR).flatMap fun l => l ++ [It.al])) true false true true
  refine ⟨fun c hc => ?_, fun c hc => (nomatch hc), by decide, rfl, rfl, rfl, K⟩
  simp only [List.mem_cons, List.not_mem_nil, or_false] at hc
  unfold okc
  omega
theorem readD_ua (rest : List It) (dd rd : PyData) : ∀ (l : List (Nat × List Nat)) (ags : List (List Nat)), readD ((l.map fun p => It.ua p.1 p.2) ++ rest) ags dd rd = readD rest (ags ++ l.map (·.2)) dd rd
  | [], ags => by rw [List.map_nil, List.map_nil, List.append_nil]; rfl
  | p :: l, ags => by
    show readD ((l.map fun p => It.ua p.1 p.2) ++ rest) (ags ++ [p.2]) dd rd = _
    rw [readD_ua rest dd rd l, List.append_assoc]
    rfl
theorem readD_recs : ∀ (cs : List Rc), readD ((cs.map preR).flatMap fun l => l ++ [It.al]) [] .none .none = cs.map dOf
  | [] => rfl
  | c :: cs => by
    have e : (((c :: cs).map preR).flatMap fun l => l ++ [It.al]) = ((uaL c.us).map fun p => It.ua p.1 p.2) ++ (cdIts c.dl ++ .al :: ((cs.map preR).flatMap fun l => l ++ [It.al])) := by
      rw [List.map_cons, List.flatMap_cons]
      unfold preR
      rw [uaL_eq]
      simp
    rw [e, readD_ua, uaL_snd, List.nil_append]
    obtain ⟨us, dl⟩ := c
    cases dl with
    | none => exact congrArg _ (readD_recs cs)
    | some N => exact congrArg _ (readD_recs cs)
theorem readD_all (cs : List Rc) : readD (allIts cs) [] .none .none = d0 :: (cs.filter ag).map dOf := by
  show PyData.list [.list [.str (S [97, 32, 98]), .str (S [])], .int 5, .tuple [.int 3, .int 4]] :: readD (((cs.filter ag).map preR).flatMap fun l => l ++ [It.al]) [] .none .none = _
  rw [readD_recs]
  rfl
end Mine
end
set_option maxHeartbeats 1000000
noncomputable section
namespace Mine
/-! ## the page is short and plain -/
noncomputable def asc (l : List Nat) : Prop := ∀ c ∈ l, c < 128
theorem asc_app {a b : List Nat} (ha : asc a) (hb : asc b) : asc (a ++ b) := fun c hc => (List.mem_append.mp hc).elim (ha c) (hb c)
theorem asc_dec {l : List Nat} (h : (l.all fun c => decide (c < 128)) = true) : asc l := fun c hc => of_decide_eq_true (List.all_eq_true.mp h c hc)
theorem asc_jn {sep : List Nat} (hs : asc sep) : ∀ (l : List (List Nat)), (∀ x ∈ l, asc x) → asc (jn sep l)
  | [], _ => fun c hc => (nomatch hc)
  | [p], h => h p (.head _)
  | p :: q :: l, h => asc_app (asc_app (h p (.head _)) hs) (asc_jn hs (q :: l) fun x hx => h x (.tail _ hx))
theorem asc_txt : ∀ (u : Spl), (∀ p ∈ u, p.2 < 128) → asc u.txt
  | [], _ => fun c hc => (nomatch hc)
  | (true, c) :: u, h => fun d hd => by
    rcases List.mem_cons.mp hd with rfl | hd
    · decide
    · rcases List.mem_cons.mp hd with rfl | hd
      · exact h (true, d) (.head _)
      · exact asc_txt u (fun p hp => h p (.tail _ hp)) d hd
  | (false, c) :: u, h => fun d hd => by
    rcases List.mem_cons.mp hd with rfl | hd
    · exact h (false, d) (.head _)
    · exact asc_txt u (fun p hp => h p (.tail _ hp)) d hd
theorem asc_map {u : List Nat} (f : Nat → Bool) (h : asc u) : ∀ p ∈ u.map fun c => (f c, c), p.2 < 128 := fun p hp => by
  obtain ⟨c, hc, rfl⟩ := List.mem_map.mp hp
  exact h c hc
theorem asc_spell (way : Nat) {u : List Nat} (h : asc u) : asc (spell way u) := by
  unfold spell
  split
  · refine fun c hc => ?_
    rcases List.mem_cons.mp hc with rfl | hc
    · decide
    · rcases List.mem_append.mp hc with hc | hc
      · exact asc_txt (sp0 u) (asc_map _ h) c hc
      · rw [List.mem_singleton.mp hc]; decide
  · split
    · cases u with
      | nil => exact fun c hc => (nomatch hc)
      | cons d u =>
        refine asc_txt (sp1 (d :: u)) fun p hp => ?_
        rcases List.mem_cons.mp hp with rfl | hp
        · exact h d (.head _)
        · exact asc_map es1 (fun c hc => h c (.tail _ hc)) p hp
    · exact asc_txt (sp2 u) (asc_map _ h)
theorem asc_dig (N : Nat) : asc (dig N) := fun c hc => by have := dig_ok N c hc; omega
theorem okC_spl {c : Rc} (h : okC c) : ∀ q ∈ spl c.us, asc q ∧ q.length ≤ 8 := fun q hq => by
  refine ⟨?_, (spl_ok c.us (fun u hu => (h.ok u hu).1) q hq).2⟩
  obtain ⟨i, hi, rfl⟩ := List.mem_map.mp hq
  have hi' : i < c.us.length := by
    have := List.mem_range'.mp hi
    omega
  exact asc_spell _ fun d hd => ((h.ok _ (by simp [List.getD, hi'])).2 d hd).1
theorem okC_mid {c : Rc} (h : okC c) : ∀ q ∈ midT c.dl, asc q ∧ q.length ≤ 20 := fun q hq => by
  obtain ⟨us, dl⟩ := c
  cases dl with
  | none => cases hq
  | some N =>
    cases List.mem_singleton.mp hq
    refine ⟨asc_app (asc_dec (by decide)) (asc_dig N), ?_⟩
    have := dig_len N (h.dl N rfl)
    rw [List.length_append]
    show 13 + _ ≤ 20
    omega
theorem rec_ok {c : Rc} (h : okC c) : asc (recT c.us (midT c.dl)) ∧ (recT c.us (midT c.dl)).length ≤ 3000 := by
  obtain ⟨us, dl⟩ := c
  cases us with
  | nil => exact ⟨fun c hc => (nomatch hc), Nat.zero_le _⟩
  | cons u us =>
    have h1 := okC_spl h
    have h2 := okC_mid h
    show asc (jn [10] (enR (spl (u :: us)) (midT dl))) ∧ (jn [10] (enR (spl (u :: us)) (midT dl))).length ≤ 3000
    have hm : ∀ x ∈ enR (spl (u :: us)) (midT dl), asc x ∧ x.length ≤ 20 := fun x hx => by
      unfold enR at hx
      rcases List.mem_append.mp hx with hx | hx
      · rcases List.mem_append.mp hx with hx | hx
        · obtain ⟨q, hq', rfl⟩ := List.mem_map.mp hx
          have := h1 q hq'
          refine ⟨asc_app (asc_dec (by decide)) this.1, ?_⟩
          rw [List.length_append]
          show 12 + q.length ≤ 20
          omega
        · exact h2 x hx
      · cases List.mem_singleton.mp hx
        exact ⟨asc_dec (by decide), by decide⟩
    refine ⟨asc_jn (asc_dec (by decide)) _ fun x hx => (hm x hx).1, ?_⟩
    refine Nat.le_trans (jn_len [10] _) (Nat.le_trans (tot_lem 20 1 _ fun x hx => (hm x hx).2) ?_)
    have hl := h.len
    have hml : (midT dl).length ≤ 1 := by cases dl <;> simp [midT]
    unfold enR
    rw [List.length_append, List.length_append, List.length_map, spl_len]
    show 21 * ((u :: us).length + (midT dl).length + 1) ≤ 3000
    have : (u :: us).length ≤ 100 := hl
    omega
theorem tx0_ok : asc tx0 ∧ tx0.length ≤ 3000 := by
  refine ⟨asc_dec (by decide +kernel), by decide +kernel⟩
theorem page_ok (cs : List Rc) (h : ∀ c ∈ cs, okC c) (hl : cs.length ≤ 100) : asc (pg (allIts cs)) ∧ (pg (allIts cs)).length ≤ 400000 := by
  rw [page_eq]
  have hm : ∀ x ∈ tx0 :: (cs.filter ag).map (fun c => recT c.us (midT c.dl)), asc x ∧ x.length ≤ 3000 := fun x hx => by
    rcases List.mem_cons.mp hx with rfl | hx
    · exact tx0_ok
    · obtain ⟨c, hc, rfl⟩ := List.mem_map.mp hx
      exact rec_ok (h c (List.mem_filter.mp hc).1)
  refine ⟨asc_jn (asc_dec (by decide)) _ fun x hx => (hm x hx).1, ?_⟩
  refine Nat.le_trans (jn_len [10, 10] _) (Nat.le_trans (tot_lem 3000 2 _ fun x hx => (hm x hx).2) ?_)
  have := List.length_filter_le ag cs
  rw [List.length_cons, List.length_map]
  show 3002 * _ ≤ 400000
  omega
theorem its_len (cs : List Rc) (h : ∀ c ∈ cs, okC c) (hl : cs.length ≤ 100) : (allIts cs).length ≤ 900000 := by
  have key : ∀ l : List Rc, (∀ c ∈ l, okC c) → ((l.map preR).flatMap fun l => l ++ [It.al]).length ≤ 102 * l.length := by
    intro l
    induction l with
    | nil => exact fun _ => Nat.le_refl _
    | cons c l ih =>
      intro hc
      have h1 := ih fun d hd => hc d (.tail _ hd)
      have h2 := (hc c (.head _)).len
      have h3 : (cdIts c.dl).length ≤ 1 := by cases c.dl <;> simp [cdIts]
      rw [List.map_cons, List.flatMap_cons, List.length_append, List.length_append, List.length_singleton]
      have h4 : (preR c).length ≤ c.us.length + 1 := by
        unfold preR uaIts
        rw [List.length_append, List.length_map, List.length_range']
        omega
      show _ ≤ 102 * (l.length + 1)
      omega
  have h1 := key (cs.filter ag) fun c hc => h c (List.mem_filter.mp hc).1
  have h2 := List.length_filter_le ag cs
  unfold allIts
  rw [List.flatMap_cons, List.length_append]
  show 5 + _ ≤ _
  omega
theorem page_cons (cs : List Rc) : ∃ c l, pg (allIts cs) = c :: l := ⟨_, _, rfl⟩
/-! ### str.count, int + -/
section
variable {prog : Program} {w : World} {G : Nat → Option Obj}
theorem c_iadd (a b r : Int) (t u : Tok) (hr : a + b = r) : Con prog w G 0 (.call (.builtin "int.__add__") ⟨[.int a t, .int b u], []⟩) [] (fun t' : Tok => ret (.int r t')) (fun _ => []) (fun _ => True) := by
  subst hr
  intro A hA h sz tk g d os D
  exact Ok.of_call (wpAny_call_int_add (post_same tk D rfl rfl trivial))
theorem c_count (l : List Nat) (n : Int) (hn : nls l = n) (t u : Tok) : Con prog w G 0 (.call (.builtin "str.count") ⟨[.str (S l) t, .str (S [10]) u], []⟩) [] (fun t' : Tok => ret (.int n t')) (fun _ => []) (fun _ => True) := by
  subst hn
  intro A hA h sz tk g d os D
  have e : ((Builtin.Str.occurrences (S l) (S [10]) 0 (S l).length ((S l).length + 1)).length : Int) = nls l := by
    have h1 := count_is (S l) 10
    have h2 : ∀ l : List Nat, Spec.countIn (.str ⟨#[10]⟩) (l.map fun n => PyData.str ⟨#[n]⟩) = nls l := by
      intro l
      rw [show (l.map fun n => PyData.str ⟨#[n]⟩) = (l.map fun n => (⟨#[n]⟩ : Str)).map PyData.str from by rw [List.map_map]; rfl]
      rw [cnt_strs]
      unfold nls
      induction l with
      | nil => rfl
      | cons c l ih =>
        rw [List.map_cons, List.count_cons, List.count_cons]
        have : ((⟨#[c]⟩ : Str) == ⟨#[10]⟩) = (c == 10) := by
          by_cases h : c = 10
          · subst h; rfl
          · rw [beq_eq_false_iff_ne.mpr h]
            refine beq_eq_false_iff_ne.mpr fun e => h ?_
            have := congrArg (fun s : Str => s.cps.toList) e
            simpa using this
        rw [this]
        push_cast
        push_cast at ih
        rw [ih]
    exact h1.trans (h2 l)
  refine Ok.of_call (call_gives PySem.F.slot_str_count (typeIs_str _ (S l) t) PySem.F.entry_str_count (PySem.F.args_str_count_2 _ _) (gives_str_count (S l) (S [10]) t u) ?_)
  rw [e]
  exact post_same tk D rfl rfl trivial
end
end Mine
end
set_option maxHeartbeats 1000000
noncomputable section
namespace Mine
theorem rc_ok {o : RO} (h : okR o) : okC o.rc := by
  refine ⟨fun u hu => ?_, fun N hN => ?_, by show (o.ps.map _).length ≤ 100; rw [List.length_map]; exact h.len⟩
  · obtain ⟨q, hq, rfl⟩ := List.mem_map.mp hu
    have := h.ok q hq
    exact ⟨this.1.2, fun d hd => ⟨this.1.1 d hd, this.2 d hd⟩⟩
  · have hN' : o.dl.map (·.1) = some N := hN
    cases hd : o.dl with
    | none => rw [hd] at hN'; cases hN'
    | some p =>
      rw [hd] at hN'
      cases hN'
      exact h.dl p.1 p.2 hd
theorem recT_full (c : Rc) (t : Tok) : full (recT c.us (midT c.dl), t) = ag c := by
  obtain ⟨us, dl⟩ := c
  cases us with
  | nil => rfl
  | cons u us =>
    show full (jn [10] (enR (spl (u :: us)) (midT dl)), t) = true
    have hs : ∃ q qs, spl (u :: us) = q :: qs := ⟨_, _, rfl⟩
    obtain ⟨q, qs, e⟩ := hs
    rw [e]
    show full (jn [10] ((tUAs ++ q) :: ((qs.map fun q => tUAs ++ q) ++ midT dl ++ [tAL])), t) = true
    rw [jn_ne _ _ (by simp)]
    rfl
theorem texts_eq : ∀ (all : List RO) (ps : Pcs), ps.map (·.1) = all.map txOf → (ps.filter full).map (·.1) = ((all.map RO.rc).filter ag).map fun c => recT c.us (midT c.dl)
  | [], [], _ => rfl
  | o :: all, (u, t) :: ps, h => by
    obtain ⟨h1, h2⟩ := List.cons.inj h
    have ih := texts_eq all ps h2
    have hu : u = recT o.rc.us (midT o.rc.dl) := h1
    subst hu
    rw [List.filter_cons, recT_full, List.map_cons, List.filter_cons]
    cases ag o.rc with
    | true => exact congrArg _ ih
    | false => exact ih
theorem tx0_eq : tx0 = 85 :: tx0.tail := by kernel_rfl
/-! ## the data of the records -/
theorem strD_eq (ps : Pcs) : strD ps = (ps.map (·.1)).map fun u => .str (S u) := by
  unfold strD
  rw [List.map_map]
  rfl
theorem ro_rd {F : Facts} (o : RO) (h : ∀ p ∈ o.fs, p ∈ F) : Rd F (.ref o.r) (dOf o.rc) := by
  refine .list (h _ (.head _)) (.cons (.list (h _ (.tail _ (.head _))) ?_) (.cons ?_ (.cons .none .nil)))
  · show RdA F (stv o.ps) ((o.ps.map (·.1)).map fun u => .str (S u))
    rw [← strD_eq]
    exact stv_rd F o.ps
  · show Rd F (dvOf o.dl) (dlD (o.dl.map (·.1)))
    cases o.dl with
    | none => exact .none
    | some p => exact .int _ _
theorem hasAg_ag (o : RO) : hasAg o = ag o.rc := by
  obtain ⟨r, a, m, k, ps, dl⟩ := o
  cases ps <;> rfl
theorem ros_rd {F : Facts} : ∀ (all : List RO), (∀ p ∈ ROs all, p ∈ F) → RdA F (agRefs all) (((all.map RO.rc).filter ag).map dOf)
  | [], _ => .nil
  | o :: all, h => by
    have ih := ros_rd all fun p hp => h p (by unfold ROs; rw [List.flatMap_cons]; exact List.mem_append_right _ hp)
    have ho := ro_rd (F := F) o fun p hp => h p (by unfold ROs; rw [List.flatMap_cons]; exact List.mem_append_left _ hp)
    unfold agRefs at ih ⊢
    rw [List.filter_cons, hasAg_ag, List.map_cons, List.filter_cons]
    cases ag o.rc with
    | true => exact .cons ho ih
    | false => exact ih
theorem dOf_lay {c : Rc} (h : okC c) : (dOf c).canLay0 = true := by
  have key : ∀ us : List (List Nat), (∀ u ∈ us, u.length ≤ 3 ∧ ∀ d ∈ u, d < 128 ∧ okc d) → PyData.canLayAll0 (us.map fun u => .str (S u)) = true := by
    intro us
    induction us with
    | nil => exact fun _ => rfl
    | cons u us ih =>
      intro hu
      show (PyData.canLay0 (.str (S u)) && PyData.canLayAll0 (us.map fun u => .str (S u))) = true
      rw [ih fun v hv => hu v (.tail _ hv), Bool.and_true]
      exact strOk_of fun c hc => Nat.lt_trans ((hu u (.head _)).2 c hc).1 (by decide)
  have k := key c.us h.ok
  show (PyData.canLayAll0 (c.us.map fun u => .str (S u)) && ((dlD c.dl).canLay0 && (true && true))) = true
  rw [k]
  cases c.dl <;> rfl
theorem ds_lay : ∀ cs : List Rc, (∀ c ∈ cs, okC c) → PyData.canLayAll0 (cs.map dOf) = true
  | [], _ => rfl
  | c :: cs, h => by
    show ((dOf c).canLay0 && PyData.canLayAll0 (cs.map dOf)) = true
    rw [dOf_lay (h c (.head _)), ds_lay cs fun d hd => h d (.tail _ hd)]
    rfl
theorem dep_strs : ∀ us : List (List Nat), PyData.depthAll (us.map fun u => .str (S u)) = 0
  | [] => rfl
  | _ :: us => by
    show max 0 (PyData.depthAll (us.map fun u => .str (S u))) = 0
    rw [dep_strs us]
    rfl
theorem dOf_dep (c : Rc) : (dOf c).depth ≤ 5 := by
  show PyData.depthAll [.list (c.us.map fun u => .str (S u)), dlD c.dl, .none] + 1 ≤ 5
  show max (PyData.depthAll (c.us.map fun u => .str (S u)) + 1) (max (dlD c.dl).depth (max 0 0)) + 1 ≤ 5
  have h : (dlD c.dl).depth = 0 := by cases c.dl <;> rfl
  rw [dep_strs, h]
  decide
theorem ds_dep : ∀ cs : List Rc, PyData.depthAll (cs.map dOf) ≤ 5
  | [] => Nat.zero_le _
  | c :: cs => by
    show max (dOf c).depth (PyData.depthAll (cs.map dOf)) ≤ 5
    exact Nat.max_le.mpr ⟨dOf_dep c, ds_dep cs⟩
/-- what both sides are -/
noncomputable def endD (cs : List Rc) (n : Int) : PyData := .tuple [.list (d0 :: (cs.filter ag).map dOf), .list [.list [], .none, .none], .str (S []), .int n]
theorem endD_lay (cs : List Rc) (h : ∀ c ∈ cs, okC c) (n : Int) : (endD cs n).canLay0 = true := by
  have k := ds_lay (cs.filter ag) fun c hc => h c (List.mem_filter.mp hc).1
  have h0 : d0.canLay0 = true := by
    show ((PyData.canLay0 (.str (S [97, 32, 98])) && (PyData.canLay0 (.str (S [])) && true)) && (true && ((true && (true && true)) && true))) = true
    rw [strOk_of (l := [97, 32, 98]) (fun c hc => by simp only [List.mem_cons, List.not_mem_nil, or_false] at hc; omega), strOk_of (l := []) fun c hc => (nomatch hc)]
    rfl
  show ((d0.canLay0 && PyData.canLayAll0 ((cs.filter ag).map dOf)) && ((true && (true && (true && true))) && (PyData.canLay0 (.str (S [])) && (true && true)))) = true
  rw [k, h0, strOk_of (l := []) fun c hc => (nomatch hc)]
  rfl
theorem endD_dep (cs : List Rc) (n : Int) : (endD cs n).depth ≤ 20 := by
  have k := ds_dep (cs.filter ag)
  show max (max d0.depth (PyData.depthAll ((cs.filter ag).map dOf)) + 1) (max (PyData.depthAll [PyData.list [], .none, .none] + 1) (max 0 (max 0 0))) + 1 ≤ 20
  have h0 : d0.depth ≤ 5 := by decide
  have h1 : PyData.depthAll [PyData.list [], .none, .none] + 1 ≤ 6 := by decide
  exact Nat.le_trans (Nat.succ_le_succ (Nat.max_le.mpr ⟨Nat.succ_le_succ (Nat.max_le.mpr ⟨h0, k⟩), Nat.max_le.mpr ⟨h1, by decide⟩⟩)) (by decide : 7 ≤ 20)
end Mine
end
set_option maxHeartbeats 1000000
noncomputable section
namespace Mine
/-! ## law whole -/
theorem Since.left0 {G : Nat → Option Obj} {h : Heap} {fs : Facts} {sz : Nat} (D : Rep G h fs sz) : Since h fs h fs := Since.start h fs
noncomputable def laG (P : Params) (L it acc R : Addr) (rvs : List Value) (rn : Nat) (ito : Obj) (o : Option DT) (vs : List Value) (n : Nat) : Facts :=
  [(L, drD P o), (it, ito), (R, lst rvs rn), (acc, lst vs n)]
noncomputable def la3G (P : Params) (L it acc R : Addr) (rvs : List Value) (rn : Nat) (ito : Obj) (o : Option (Tok × Value)) (vs : List Value) (n : Nat) : Facts :=
  [(L, eaD P o), (it, ito), (R, lst rvs rn), (acc, lst vs n)]
structure LA1b where
  t : Tok
  ps : Pcs
  d : DT
  n : Nat
  tbl : List Value
theorem la1_k2 (w : World) (L fr it acc R r0 a0 tp : Addr) (t5 t3 t4 ta tb : Tok) (rn : Nat) (all : List RO) (hq : ∀ q ∈ all, okR q) (hl : all.length ≤ 900) :
    LCon pw w (G w.params) 28 (laK laX1 L fr it acc) ((laG w.params L it acc R (refs r0 all) rn (liO R 0) none [] 0 ++ p0F r0 a0 tp t5 t3 t4 ta tb []) ++ ROs all) (fun _ : LA1b => .ok .next)
      (fun r => (laG w.params L it acc R (refs r0 all) rn (liX (all.length + 1)) (some r.d) (stv ((85 :: tx0.tail, r.t) :: r.ps)) r.n ++ p0F r0 a0 tp t5 t3 t4 ta tb r.tbl) ++ ROs all) (fun r => r.ps.map (·.1) = all.map txOf) := by
  refine (la1_k w L fr it acc R r0 a0 tp t5 t3 t4 ta tb rn all hq hl).ex fun r hr => ?_
  obtain ⟨ps, d, n, tbl⟩ := r
  cases ps with
  | nil => cases hr
  | cons p ps =>
    obtain ⟨h1, h2⟩ := List.cons.inj hr
    obtain ⟨u, t⟩ := p
    have h1' : u = tx0 := h1
    subst h1'
    refine ⟨⟨t, ps, d, n, tbl⟩, rfl, ?_, h2⟩
    show (laG _ _ _ _ _ _ _ _ _ (stv ((tx0, t) :: ps)) _ ++ _) ++ _ = (laG _ _ _ _ _ _ _ _ _ (stv ((85 :: tx0.tail, t) :: ps)) _ ++ _) ++ _
    rw [← tx0_eq]
noncomputable def la123 : List Stmt := (bodOf laSt).take 3
noncomputable def laRet : Stmt := (bodOf laSt).getD 3 nop
noncomputable def laR : Expr := retV laRet
noncomputable def rtP : Stmt → Pos
  | .Return _ p => p
  | _ => ⟨0, 0, 0, 0⟩
theorem la_body : bodOf laSt = la123 ++ [laRet] := by kernel_rfl
theorem laRet_eq : laRet = .Return (some (.Compare (cmL laR) [.Eq] [cmR laR] (cmP laR))) (rtP laRet) := by kernel_rfl
theorem bmE : behindInMarks .Eq (cmR laR) = false := by kernel_rfl
theorem asc_arr {l : List Nat} (h : asc l) : (S l).cps.all (· < 128) = true := by
  show (⟨l⟩ : Array Nat).all (· < 128) = true
  simp only [List.all_toArray, List.all_eq_true, decide_eq_true_eq]
  exact h
theorem la3_kU (w : World) (L fr it acc R r0 a0 tp : Addr) (t5 ta tb : Tok) (rn : Nat) (all : List RO) (hq : ∀ q ∈ all, okR q) (hl : all.length ≤ 900) (U : Facts) :
    LCon pw w (G w.params) 13 (laK laX3 L fr it acc) ((la3G w.params L it acc R (refs r0 all) rn (liO R 0) none [] 0 ++ q0F r0 a0 tp t5 ta tb) ++ (ROs all ++ U)) (fun _ : LA3 => .ok .next)
      (fun r => (la3G w.params L it acc R (refs r0 all) rn (liX (all.length + 1)) (some (r.b, r.v)) (.ref r0 :: agRefs all) r.n ++ q0F r0 a0 tp t5 ta tb) ++ (ROs all ++ U)) (fun r => True) := by
  have K := (la3_k w L fr it acc R r0 a0 tp t5 ta tb rn all hq hl).frame U
  rw [List.append_assoc] at K
  exact K.map id fun r _ => ⟨rfl, List.append_assoc _ _ _, trivial⟩
theorem inL {fs T : Facts} (i : Nat) {p : Addr × Obj} (e : fs[i]? = some p) : p ∈ fs ++ T := List.mem_append_left _ (List.mem_of_getElem? e)
noncomputable def lbC (L : Addr) : Code := .func (bodOf laSt) (laE L)
theorem c_lb (w : World) (L s : Addr) (ts : Tok) (zs : List (Int × Tok)) (hz5 : (zs.take 5).length ≤ 50) (xs : List Value) (hl : xs.length ≤ 1000) (h5 : xs.take 5 = (zs.take 5).map (fun z => Value.int z.1 z.2)) (n : Nat) :
    LCon pw w (G w.params) 30 (lbC L) [(L, fra [nt w.params k_script ts (.ref s)] 1), (s, lst xs n), (117, tbO []), (124, tbO [])] (fun o : List Value × List Value => ret (.bool true)) (fun o => [(s, lst xs n), (117, tbO o.1), (124, tbO o.2)]) (fun _ => True) := by
  intro A hA1 h sz tk g d os D
  have E0 := Since.start h [(L, fra [nt w.params k_script ts (.ref s)] 1), (s, lst xs n), (117, tbO []), (124, tbO [])]
  have hA : Fit 29 (A.under (lbC L)) := under_fit hA1 rfl
  refine codeAny_func ?_
  show wpAny (model pw w) (A.under (lbC L)) (execs (bodOf laSt) (laE L)) _ _ _
  rw [show execs (bodOf laSt) (laE L) = execs (la123 ++ [laRet]) (laE L) from congrArg (fun b => execs b (laE L)) la_body]
  refine execs_split la123 [laRet] ?_
  refine at_execs ?_
  refine gu (c_lslice s sz xs n tk hl) [0,1,2,2,2] [(L, fra [nt w.params k_script ts (.ref s)] 1), (s, lst xs n), (117, tbO []), (124, tbO []), (sz, fld "slice" [.none, (.int 5 tk), .none])] (sz + 1) (tk + 1) [1,4] (hA.le (by decide)) D E0 (by kernel_rfl) ⟨by decide, by kernel_rfl, rfl⟩ (fun _ => rfl) fun nl h2 sz2 tk2 hX2 D2 E2 => ?_
  refine guk (LCon.con (c_re2 w nl (List.take 5 zs) 0 hz5 (List.take 5 xs) h5)) [0] [(L, fra [nt w.params k_script ts (.ref s)] 1), (s, lst xs n), (117, tbO []), (124, tbO []), (sz, fld "slice" [.none, .int 5 tk, .none]), (nl, lst (List.take 5 xs) 0)] sz2 tk2 [5] [0,1,2,3,4] (hA.le (by decide)) D2 E2 (by kernel_rfl) (by kernel_rfl) (by decide) fun o3 h3 sz3 tk3 hX3 D3 E3 => ?_
  obtain ⟨hrc, hok, hal⟩ := hX3
  have DD := D3.perm (perm3 _ _ _)
  have EE := E3.perm (perm3 _ _ _)
  have D4 := DD.left
  have E4 := Since.left0 D4
  have hal9 : o3.all.length ≤ 900 := by
    have h1 : o3.all.length ≤ 2 + (zs.take 5).length := hal
    omega
  refine guT (LCon.con (la1_k2 w (sz3 + 2) L sz3 (sz3 + 1) o3.R o3.r0 o3.a0 o3.tp o3.t5 o3.t3 o3.t4 o3.ta o3.tb o3.rn o3.all hok hal9)) DD EE [5,5,5,1,1,0,1,0,10] [(o3.1, lst (refs o3.r0 o3.all) o3.rn), (o3.2, lst [.ref o3.a0, .int 5 o3.t5, .ref o3.tp] 0), (o3.3, lst [.str (S [97, 32, 98]) o3.ta, .str nilS o3.tb] 0), (o3.4, tup [.int 3 o3.t3, .int 4 o3.t4]), (L, fra [nt w.params k_script ts (.ref s), nt w.params k_drawn tk3 (.ref o3.1)] 2), (s, lst xs n), (117, tbO []), (124, tbO []), (sz, fld "slice" [.none, .int 5 tk, .none]), (sz3, fld "list_iterator" [(.ref o3.1), (.int 0 0)]), ((sz3 + 1), lst [] 0), ((sz3 + 2), dic [] 0)] (sz3 + 3) (tk3 + 1) [11,9,0,10,1,2,3,6] [4,5,7,8] (hA.le (by decide)) D4 E4 (by generalize w = w'; revert w'; exact tw_fa (by kernel_rfl) (by kernel_rfl)) (by kernel_rfl) (by decide) fun o5 h5' sz5 tk5 hX5 D5 E5 => ?_
  have D6 := D5.left
  have E6 := Since.left0 D6
  have hps : o5.ps.length ≤ 900 := by
    have := congrArg List.length hX5
    rw [List.length_map, List.length_map] at this
    omega
  refine gu (LCon.con (la2_k w (sz5 + 2) L sz5 (sz3 + 1) (sz5 + 1) o5.n 85 (List.tail tx0) o5.t o5.ps hps)) [9,9,1,1,1,1,1,1,1,1,1,9,4,4,0,4,0,13] [((sz3 + 2), dic [] 6), (sz3, liX (o3.all.length + 1)), (o3.1, lst (refs o3.r0 o3.all) o3.rn), ((sz3 + 1), lst (stv ((85 :: tx0.tail, o5.t) :: o5.ps)) o5.n), (o3.2, lst [.ref o3.a0, .int 5 o3.t5, .ref o3.tp] 0), (o3.3, lst [.str (S [97, 32, 98]) o3.ta, .str nilS o3.tb] 0), (o3.4, tup [.int 3 o3.t3, .int 4 o3.t4]), (117, tbO o5.tbl), (L, fra [nt w.params k_script ts (.ref s), nt w.params k_drawn tk3 (.ref o3.1), nt w.params k_texts tk5 (.ref (sz3 + 1))] 3), (s, lst xs n), (124, tbO []), (sz, fld "slice" [.none, .int 5 tk, .none]), (sz5, fld "list_iterator" [(.ref (sz3 + 1)), (.int 0 0)]), ((sz5 + 1), lst [] 0), ((sz5 + 2), dic [] 0)] (sz5 + 3) (tk5 + 2) [14,12,3,13] (hA.le (by decide)) D6 E6 (by generalize w = w'; revert w'; exact tw_fa (by kernel_rfl) (by kernel_rfl)) ⟨by decide, by kernel_rfl, rfl⟩ (fun _ => rfl) fun o7 h7 sz7 tk7 hX7 D7 E7 => ?_
  have hcs : ∀ c ∈ o3.all.map RO.rc, okC c := fun c hc => by
    obtain ⟨q, hq, rfl⟩ := List.mem_map.mp hc
    exact rc_ok (hok q hq)
  have hcl : (o3.all.map RO.rc).length ≤ 100 := by
    have h1 : o3.all.length ≤ 2 + (zs.take 5).length := hal
    rw [List.length_map]
    omega
  obtain ⟨hasc, hlen⟩ := page_ok _ hcs hcl
  have htxt : (((85 :: tx0.tail, o5.t) :: o5.ps).filter full).map (fun p : List Nat × Tok => p.1) = tx0 :: ((o3.all.map RO.rc).filter ag).map fun c => recT c.us (midT c.dl) := by
    rw [← tx0_eq, ← texts_eq o3.all o5.ps hX5]
    rfl
  have hJ : jn [10, 10] ((((85 :: tx0.tail, o5.t) :: o5.ps).filter full).map (fun p : List Nat × Tok => p.1)) = pg (allIts (o3.all.map RO.rc)) := by
    rw [htxt, page_eq]
  have hT : tot ([10, 10] : List Nat).length ((((85 :: tx0.tail, o5.t) :: o5.ps).filter full).map (fun p : List Nat × Tok => p.1)) ≤ 1000000 := by
    rw [htxt]
    refine Nat.le_trans (tot_lem 3000 2 _ fun x hx => ?_) ?_
    · rcases List.mem_cons.mp hx with rfl | hx
      · exact tx0_ok.2
      · obtain ⟨c, hc, rfl⟩ := List.mem_map.mp hx
        exact (rec_ok (hcs c (List.mem_filter.mp hc).1)).2
    · have := List.length_filter_le ag (o3.all.map RO.rc)
      rw [List.length_cons, List.length_map]
      show 3002 * _ ≤ _
      omega
  obtain ⟨pc, pl, hpc⟩ := page_cons (o3.all.map RO.rc)
  rw [hpc] at hJ hasc hlen
  refine gu (c_joinV [10, 10] (tk5 + 1) (sz5 + 1) (stv (List.filter full ((85 :: List.tail tx0, o5.t) :: o5.ps))) (List.filter full ((85 :: List.tail tx0, o5.t) :: o5.ps)) o7.n (pc :: pl) rfl hT hJ) [15,15,15] [((sz3 + 2), dic [] 6), (sz3, liX (o3.all.length + 1)), (o3.1, lst (refs o3.r0 o3.all) o3.rn), ((sz3 + 1), lst (stv ((85 :: tx0.tail, o5.t) :: o5.ps)) o5.n), (o3.2, lst [.ref o3.a0, .int 5 o3.t5, .ref o3.tp] 0), (o3.3, lst [.str (S [97, 32, 98]) o3.ta, .str nilS o3.tb] 0), (o3.4, tup [.int 3 o3.t3, .int 4 o3.t4]), (117, tbO o5.tbl), (L, fra [nt w.params k_script ts (.ref s), nt w.params k_drawn tk3 (.ref o3.R), nt w.params k_texts tk5 (.ref (sz3 + 1))] 3), (s, lst xs n), (124, tbO []), (sz, fld "slice" [.none, .int 5 tk, .none]), (sz5, liX (List.length o5.ps + 1)), ((sz5 + 1), lst (stv (List.filter full ((85 :: tx0.tail, o5.t) :: o5.ps))) o7.n), ((sz5 + 2), dic [] 2)] sz7 tk7 [13] (hA.le (by decide)) D7 E7 (by generalize w = w'; revert w'; exact tw_fa (by kernel_rfl) (by kernel_rfl)) ⟨by decide, by kernel_rfl, rfl⟩ (fun _ => rfl) fun t8 h8 sz8 tk8 hX8 D8 E8 => ?_
  refine gp (.next) [9,9] [((sz3 + 2), dic [] 6), (sz3, liX (o3.all.length + 1)), (o3.1, lst (refs o3.r0 o3.all) o3.rn), ((sz3 + 1), lst (stv ((85 :: tx0.tail, o5.t) :: o5.ps)) o5.n), (o3.2, lst [.ref o3.a0, .int 5 o3.t5, .ref o3.tp] 0), (o3.3, lst [.str (S [97, 32, 98]) o3.ta, .str nilS o3.tb] 0), (o3.4, tup [.int 3 o3.t3, .int 4 o3.t4]), (117, tbO o5.tbl), (L, fra [nt w.params k_script ts (.ref s), nt w.params k_drawn tk3 (.ref o3.1), nt w.params k_texts tk5 (.ref (sz3 + 1)), nt w.params k_page tk8 (.str (S (pc :: pl)) t8)] 4), (s, lst xs n), (124, tbO []), (sz, fld "slice" [.none, .int 5 tk, .none]), (sz5, liX (List.length o5.ps + 1)), ((sz5 + 1), lst (stv (List.filter full ((85 :: tx0.tail, o5.t) :: o5.ps))) o7.n), ((sz5 + 2), dic [] 2)] sz8 (tk8 + 1) hA.1 D8 E8 (by generalize w = w'; revert w'; exact tw_fa (by kernel_rfl) (by kernel_rfl)) fun h9 D9 E9 => ?_
  refine ⟨rfl, wpAny_execs_cons ?_⟩
  rw [laRet_eq]
  refine wpAny_Return_some ?_
  refine wpAny_Compare1 (hm := bmE) ?_
  refine at_eval ?_
  have hpa : (S (pc :: pl)).cps.all (· < 128) = true := asc_arr hasc
  have hpv : pl.length + 1 < 900000 := by
    have : (pc :: pl).length ≤ 400000 := hlen
    rw [List.length_cons] at this
    omega
  have hwf := wf_all _ hcs
  have hil := its_len _ hcs hcl
  refine guk (LCon.con (c_lr w (S (pc :: pl)) t8 pc pl (allIts (List.map RO.rc o3.all)) hpa rfl hpv hpc hwf hil)) [0,9,0] [((sz3 + 2), dic [] 6), (sz3, liX (o3.all.length + 1)), (o3.1, lst (refs o3.r0 o3.all) o3.rn), ((sz3 + 1), lst (stv ((85 :: tx0.tail, o5.t) :: o5.ps)) o5.n), (o3.2, lst [.ref o3.a0, .int 5 o3.t5, .ref o3.tp] 0), (o3.3, lst [.str (S [97, 32, 98]) o3.ta, .str nilS o3.tb] 0), (o3.4, tup [.int 3 o3.t3, .int 4 o3.t4]), (117, tbO o5.tbl), (L, fra [nt w.params k_script ts (.ref s), nt w.params k_drawn tk3 (.ref o3.R), nt w.params k_texts tk5 (.ref (sz3 + 1)), nt w.params k_page tk8 (.str (S (pc :: pl)) t8)] 4), (s, lst xs n), (124, tbO []), (sz, fld "slice" [.none, .int 5 tk, .none]), (sz5, liX (List.length o5.ps + 1)), ((sz5 + 1), lst (stv (List.filter full ((85 :: tx0.tail, o5.t) :: o5.ps))) o7.n), ((sz5 + 2), dic [] 2)] sz8 (tk8 + 1) [10] [0,1,2,3,4,5,6,7,8,9,11,12,13,14] (hA.le (by decide)) D9 E9 (by kernel_rfl) (by kernel_rfl) (by decide) fun o10 h10 sz10 tk10 hX10 D10 E10 => ?_
  have D11 := D10.perm (perm3 _ _ _)
  have E11 := E10.perm (perm3 _ _ _)
  have DS := D5.keepT E5 D11 E11
  have DD3 := DS.1.perm (perm_a _ _ _)
  have EE3 := DS.2.perm (perm_a _ _ _)
  have D12 := DD3.left
  have E12 := Since.left0 D12
  refine gp ((.ref o10.tp)) [] [(124, tbO o10.tb), (o10.1, tup [.ref o10.rs, .ref o10.rc, .str nilS o10.kt, .int (1 + nls (pc :: pl)) o10.tl]), (o10.2, lst o10.rvs o10.rn), (o10.3, lst [.ref o10.ag, .none, .none] 0), (o10.4, lst [] 0), ((sz3 + 2), dic [] 6), (sz3, liX (o3.all.length + 1)), (o3.1, lst (refs o3.r0 o3.all) o3.rn), ((sz3 + 1), lst (stv ((85 :: tx0.tail, o5.t) :: o5.ps)) o5.n), (o3.2, lst [.ref o3.a0, .int 5 o3.t5, .ref o3.tp] 0), (o3.3, lst [.str (S [97, 32, 98]) o3.ta, .str nilS o3.tb] 0), (o3.4, tup [.int 3 o3.t3, .int 4 o3.t4]), (117, tbO o5.tbl), (L, fra [nt w.params k_script ts (.ref s), nt w.params k_drawn tk3 (.ref o3.R), nt w.params k_texts tk5 (.ref (sz3 + 1)), nt w.params k_page tk8 (.str (S (pc :: pl)) t8)] 4), (s, lst xs n), (sz, fld "slice" [.none, .int 5 tk, .none]), (sz5, liX (List.length o5.ps + 1)), ((sz5 + 1), lst (stv (List.filter full ((85 :: tx0.tail, o5.t) :: o5.ps))) o7.n), ((sz5 + 2), dic [] 2)] sz10 tk10 hA.1 D12 E12 (by kernel_rfl) fun h13 D13 E13 => ?_
  refine at_eval ?_
  refine guT (LCon.con (la3_kU w (sz10 + 2) L sz10 (sz10 + 1) o3.R o3.r0 o3.a0 o3.tp o3.t5 o3.ta o3.tb o3.rn o3.all hok hal9 o10.T)) DD3 EE3 [14,8,8,0,8,0,20] [(124, tbO o10.tb), (o10.1, tup [.ref o10.rs, .ref o10.rc, .str nilS o10.kt, .int (1 + nls (pc :: pl)) o10.tl]), (o10.2, lst o10.rvs o10.rn), (o10.3, lst [.ref o10.ag, .none, .none] 0), (o10.4, lst [] 0), ((sz3 + 2), dic [] 6), (sz3, liX (o3.all.length + 1)), (o3.1, lst (refs o3.r0 o3.all) o3.rn), ((sz3 + 1), lst (stv ((85 :: tx0.tail, o5.t) :: o5.ps)) o5.n), (o3.2, lst [.ref o3.a0, .int 5 o3.t5, .ref o3.tp] 0), (o3.3, lst [.str (S [97, 32, 98]) o3.ta, .str nilS o3.tb] 0), (o3.4, tup [.int 3 o3.t3, .int 4 o3.t4]), (117, tbO o5.tbl), (L, fra [nt w.params k_script ts (.ref s), nt w.params k_drawn tk3 (.ref o3.R), nt w.params k_texts tk5 (.ref (sz3 + 1)), nt w.params k_page tk8 (.str (S (pc :: pl)) t8)] 4), (s, lst xs n), (sz, fld "slice" [.none, .int 5 tk, .none]), (sz5, liX (List.length o5.ps + 1)), ((sz5 + 1), lst (stv (List.filter full ((85 :: tx0.tail, o5.t) :: o5.ps))) o7.n), ((sz5 + 2), dic [] 2), (sz10, fld "list_iterator" [(.ref o3.1), (.int 0 0)]), ((sz10 + 1), lst [] 0), ((sz10 + 2), dic [] 0)] (sz10 + 3) tk10 [21,19,7,20,9,10] [0,1,2,3,4,5,6,8,11,12,13,14,15,16,17,18] (hA.le (by decide)) D13 E13 (by generalize w = w'; revert w'; exact tw_fa (by kernel_rfl) (by kernel_rfl)) (by kernel_rfl) (by decide) fun o14 h14 sz14 tk14 hX14 D14 E14 => ?_
  have D15 := D14.left
  have E15 := Since.left0 D15
  obtain ⟨N, hN⟩ : ∃ N, nls (pc :: pl) = N := ⟨_, rfl⟩
  obtain ⟨r, hr⟩ : ∃ r, 1 + N = r := ⟨_, rfl⟩
  refine gu (c_count (pc :: pl) N hN t8 (tk14 + 2)) [1,1,1,17] [((sz10 + 2), dic [] 2), (sz10, liX (o3.all.length + 1)), (o3.1, lst (refs o3.r0 o3.all) o3.rn), ((sz10 + 1), lst (.ref o3.r0 :: agRefs o3.all) o14.n), (o3.2, lst [.ref o3.a0, .int 5 o3.t5, .ref o3.tp] 0), (o3.3, lst [.str (S [97, 32, 98]) o3.ta, .str nilS o3.tb] 0), (124, tbO o10.tb), (o10.1, tup [.ref o10.rs, .ref o10.rc, .str nilS o10.kt, .int (1 + nls (pc :: pl)) o10.tl]), (o10.2, lst o10.rvs o10.rn), (o10.3, lst [.ref o10.ag, .none, .none] 0), (o10.4, lst [] 0), ((sz3 + 2), dic [] 6), (sz3, liX (o3.all.length + 1)), ((sz3 + 1), lst (stv ((85 :: tx0.tail, o5.t) :: o5.ps)) o5.n), (o3.4, tup [.int 3 o3.t3, .int 4 o3.t4]), (117, tbO o5.tbl), (L, fra [nt w.params k_script ts (.ref s), nt w.params k_drawn tk3 (.ref o3.R), nt w.params k_texts tk5 (.ref (sz3 + 1)), nt w.params k_page tk8 (.str (S (pc :: pl)) t8)] 4), (s, lst xs n), (sz, fld "slice" [.none, .int 5 tk, .none]), (sz5, liX (List.length o5.ps + 1)), ((sz5 + 1), lst (stv (List.filter full ((85 :: tx0.tail, o5.t) :: o5.ps))) o7.n), ((sz5 + 2), dic [] 2), (sz14, lst [] 0), ((sz14 + 1), lst [(.ref sz14), .none, .none] 0)] (sz14 + 2) (tk14 + 3) [] (hA.le (by decide)) D15 E15 (by generalize w = w'; revert w'; exact tw_fa (by kernel_rfl) (by kernel_rfl)) ⟨by decide, by kernel_rfl, rfl⟩ (fun _ => rfl) fun t16 h16 sz16 tk16 hX16 D16 E16 => ?_
  refine gu (c_iadd 1 N r (tk14 + 1) t16 hr) [] [((sz10 + 2), dic [] 2), (sz10, liX (o3.all.length + 1)), (o3.1, lst (refs o3.r0 o3.all) o3.rn), ((sz10 + 1), lst (.ref o3.r0 :: agRefs o3.all) o14.n), (o3.2, lst [.ref o3.a0, .int 5 o3.t5, .ref o3.tp] 0), (o3.3, lst [.str (S [97, 32, 98]) o3.ta, .str nilS o3.tb] 0), (124, tbO o10.tb), (o10.1, tup [.ref o10.rs, .ref o10.rc, .str nilS o10.kt, .int (1 + nls (pc :: pl)) o10.tl]), (o10.2, lst o10.rvs o10.rn), (o10.3, lst [.ref o10.ag, .none, .none] 0), (o10.4, lst [] 0), ((sz3 + 2), dic [] 6), (sz3, liX (o3.all.length + 1)), ((sz3 + 1), lst (stv ((85 :: tx0.tail, o5.t) :: o5.ps)) o5.n), (o3.4, tup [.int 3 o3.t3, .int 4 o3.t4]), (117, tbO o5.tbl), (L, fra [nt w.params k_script ts (.ref s), nt w.params k_drawn tk3 (.ref o3.R), nt w.params k_texts tk5 (.ref (sz3 + 1)), nt w.params k_page tk8 (.str (S (pc :: pl)) t8)] 4), (s, lst xs n), (sz, fld "slice" [.none, .int 5 tk, .none]), (sz5, liX (List.length o5.ps + 1)), ((sz5 + 1), lst (stv (List.filter full ((85 :: tx0.tail, o5.t) :: o5.ps))) o7.n), ((sz5 + 2), dic [] 2), (sz14, lst [] 0), ((sz14 + 1), lst [.ref sz14, .none, .none] 0)] sz16 tk16 [] (hA.le (by decide)) D16 E16 (by generalize w = w'; revert w'; exact tw_fa (by kernel_rfl) (by kernel_rfl)) ⟨by decide, by kernel_rfl, rfl⟩ (fun _ => rfl) fun t17 h17 sz17 tk17 hX17 D17 E17 => ?_
  refine gp ((.ref sz17)) [] [((sz10 + 2), dic [] 2), (sz10, liX (o3.all.length + 1)), (o3.1, lst (refs o3.r0 o3.all) o3.rn), ((sz10 + 1), lst (.ref o3.r0 :: agRefs o3.all) o14.n), (o3.2, lst [.ref o3.a0, .int 5 o3.t5, .ref o3.tp] 0), (o3.3, lst [.str (S [97, 32, 98]) o3.ta, .str nilS o3.tb] 0), (124, tbO o10.tb), (o10.1, tup [.ref o10.rs, .ref o10.rc, .str nilS o10.kt, .int (1 + nls (pc :: pl)) o10.tl]), (o10.2, lst o10.rvs o10.rn), (o10.3, lst [.ref o10.ag, .none, .none] 0), (o10.4, lst [] 0), ((sz3 + 2), dic [] 6), (sz3, liX (o3.all.length + 1)), ((sz3 + 1), lst (stv ((85 :: tx0.tail, o5.t) :: o5.ps)) o5.n), (o3.4, tup [.int 3 o3.t3, .int 4 o3.t4]), (117, tbO o5.tbl), (L, fra [nt w.params k_script ts (.ref s), nt w.params k_drawn tk3 (.ref o3.R), nt w.params k_texts tk5 (.ref (sz3 + 1)), nt w.params k_page tk8 (.str (S (pc :: pl)) t8)] 4), (s, lst xs n), (sz, fld "slice" [.none, .int 5 tk, .none]), (sz5, liX (List.length o5.ps + 1)), ((sz5 + 1), lst (stv (List.filter full ((85 :: tx0.tail, o5.t) :: o5.ps))) o7.n), ((sz5 + 2), dic [] 2), (sz14, lst [] 0), ((sz14 + 1), lst [.ref sz14, .none, .none] 0), (sz17, tup [(.ref (sz10 + 1)), (.ref (sz14 + 1)), (.str nilS tk14), (.int (r) t17)])] (sz17 + 1) tk17 hA.1 D17 E17 (by generalize w = w'; revert w'; exact tw_fa (by kernel_rfl) (by kernel_rfl)) fun h18 D18 E18 => ?_
  subst hr
  subst hN
  have DSf := D14.keepT E14 D18 E18
  have hF := DSf.1.has
  have hread : RdA o10.T o10.rvs (d0 :: ((o3.all.map RO.rc).filter ag).map dOf) := by
    have h1 := hX10
    rw [readD_all] at h1
    exact h1
  obtain ⟨as, ra⟩ := Rd.reads hF (d := endD (o3.all.map RO.rc) (1 + nls (pc :: pl))) (.tuple (inL 7 rfl) (.cons (.list (inL 8 rfl) (hread.mono fun p hp => List.mem_append_right _ (List.mem_append_right _ hp))) (.cons (.list (inL 9 rfl) (.cons (.list (inL 10 rfl) .nil) (.cons .none (.cons .none .nil)))) (.cons (.str _ _) (.cons (.int _ _) .nil)))))
  obtain ⟨bs, rb⟩ := Rd.reads hF (d := endD (o3.all.map RO.rc) (1 + nls (pc :: pl))) (.tuple (inL 24 rfl) (.cons (.list (inL 3 rfl) (.cons (.list (inL 4 rfl) (.cons (.list (inL 5 rfl) (.cons (.str _ _) (.cons (.str _ _) .nil))) (.cons (.int _ _) (.cons (.tuple (inL 14 rfl) (.cons (.int _ _) (.cons (.int _ _) .nil))) .nil)))) (ros_rd o3.all fun p hp => List.mem_append_right _ (List.mem_append_left _ hp)))) (.cons (.list (inL 23 rfl) (.cons (.list (inL 22 rfl) .nil) (.cons .none (.cons .none .nil)))) (.cons (.str _ _) (.cons (.int _ _) .nil)))))
  have hlay := endD_lay (o3.all.map RO.rc) hcs (1 + nls (pc :: pl))
  have hdep := endD_dep (o3.all.map RO.rc) (1 + nls (pc :: pl))
  refine PySem.SeqAt.compareEq_reads ra rb hlay hlay (by have := hA.3; rw [Nat.min_self]; show _ < 9900; omega) ?_
  rw [PySem.SeqAt.eqv_refl _ hlay]
  exact ⟨(o5.tbl, o10.tb), h18, _, _, rfl, rfl, DSf.1.left.sel (is := [17, 15, 6]) (by decide), DSf.2.sub (fun p (hp : p ∈ [(s, lst xs n), (117, tbO o5.tbl), (124, tbO o10.tb)]) => by
    rcases List.mem_cons.mp hp with rfl | hp
    · exact inL 17 rfl
    · rcases List.mem_cons.mp hp with rfl | hp
      · exact inL 15 rfl
      · cases List.mem_singleton.mp hp
        exact inL 6 rfl), trivial⟩
end Mine
end
set_option maxHeartbeats 1000000
noncomputable section
namespace Mine
/-- a door, met by a contract -/
theorem gdL {β : Type} {prog : Program} {w : World} {A A' : Around} {E' : Value → Shared → Prop} {fs0 fs1 : Facts} {res : β → Result} {fs2 : β → Facts} {X : β → Prop} {k j : Nat} {P : Params} {c' : Code} (C : LCon prog w (Mine.G P) k c' fs1 res fs2 X)
    {h h₀ : Heap} {fs : Facts} {sz tk : Nat} {g : Array GenState} {d : Drawn} {os : OsState} {cur : Cur Fin} (pl : List Nat) (is : List Nat) (hA : Fit j A') (hA1 : Fit k A) (D : Rep (Mine.G P) h fs sz) (S : Since h₀ fs0 h fs)
    (e : ((exm prog w (Mine.G P) cur fs sz tk pl).eqs.map (·.1), sel is (exm prog w (Mine.G P) cur fs sz tk pl).fs, (exm prog w (Mine.G P) cur fs sz tk pl).cur) = ((exm prog w (Mine.G P) cur fs sz tk pl).eqs.map (·.2), fs1, .top (door c')))
    (hn : is.Nodup) (hq : c'.quiet = true) : Means prog w A' (QF prog w A (Post (Mine.G P) g d os h₀ fs0 res fs2 X)) E' cur ⟨h, g, d, tk, os⟩ := by
  rw [Prod.mk.injEq, Prod.mk.injEq] at e
  obtain ⟨e1, e2, e3⟩ := e
  refine ex_sound hA.1 400 cur h fs sz tk [] pl D S (AllEq.of e1) fun h' D' S' => ?_
  unfold exm at *
  refine at_door e3 hA (noLimit D') hq (codeAny_mono (C A hA1 h' _ _ g d os (e2 ▸ D'.sel hn)) fun r s' hp => ?_)
  obtain ⟨x, h2, sz2, tk2, hr, hs, D2, S2, hX⟩ := hp
  exact ⟨x, h2, sz2, tk2, hr, hs, D2, (e2 ▸ S'.sel (is := is) : Since h₀ fs0 h' fs1).trans S2, hX⟩
theorem c_la (w : World) (s : Addr) (zs : List (Int × Tok)) (hz5 : (zs.take 5).length ≤ 50) (xs : List Value) (hl : xs.length ≤ 1000) (h5 : xs.take 5 = (zs.take 5).map (fun z => Value.int z.1 z.2)) (n : Nat) :
    LCon pw w (G w.params) 31 (laC s) [(s, lst xs n), (117, tbO []), (124, tbO [])] (fun o : List Value × List Value => ret (.bool true)) (fun o => [(s, lst xs n), (117, tbO o.1), (124, tbO o.2)]) (fun _ => True) := by
  refine lcon_in rfl fun A hA hA1 h sz tk g d os D E0 => ?_
  exact gdL (c_lb w sz s tk zs hz5 xs hl h5 n) [0,0,4,4] [3,0,1,2] hA (hA1.le (by decide)) D E0 (by kernel_rfl) (by decide) rfl
end Mine
end
set_option maxHeartbeats 1000000
noncomputable section
namespace Mine
/-! ## the walk from the top's heap -/
theorem pick_all {p : Obj → Prop} {a b : Nat} {o lo hi : Option Obj} (h : a = b → ∀ x, o = some x → p x) (hl : ∀ x, lo = some x → p x) (hh : ∀ x, hi = some x → p x) : ∀ x, pick a b o lo hi = some x → p x := by
  intro x e
  unfold pick at e
  split at e
  · rename_i hb
    exact h (Nat.eq_of_beq_eq_true hb) x e
  · split at e
    · exact hl x e
    · exact hh x e
theorem none_all {p : Obj → Prop} : ∀ x, (none : Option Obj) = some x → p x := fun _ e => nomatch e
theorem ints_zs : ∀ {vs : List Value} {ns : List Int}, IntsAre vs ns → ∃ zs : List (Int × Tok), vs = zs.map (fun z => Value.int z.1 z.2) ∧ zs.length = ns.length
  | _, _, .nil => ⟨[], rfl, rfl⟩
  | _, _, .cons n t h => by
    obtain ⟨zs, e, l⟩ := ints_zs h
    exact ⟨(n, t) :: zs, by rw [e]; rfl, congrArg (· + 1) l⟩
theorem walk_all (w : World) (s1 : Shared) (ns : List Int) (vals : List Value) (hg : s1.gens = #[]) (hsz : s1.heap.objs.size = 134) (hn : ns.length ≤ 63) (hi : IntsAre vals ns) (hol : s1.heap.get? 133 = some (lst vals 0))
    (hG : ∀ a o, G w.params a = some o → s1.heap.get? a = some o) (h117 : s1.heap.get? 117 = some (tbO [])) (h124 : s1.heap.get? 124 = some (tbO [])) :
    wpAny (model pw w) callerA (call (.ref 132) [.ref 133]) (fun v s' => v = .bool true ∧ OldK s1.heap s'.heap ∧ s'.os = s1.os ∧ s'.gens = #[]) (fun _ _ => False) s1 := by
  obtain ⟨h, g, d, tk, os⟩ := s1
  obtain ⟨zs, e1, e2⟩ := ints_zs hi
  have hA : Fit 31 callerA := ⟨rfl, by decide +kernel, by decide +kernel⟩
  have D : Rep (G w.params) h [(133, lst vals 0), (117, tbO []), (124, tbO [])] 134 := by
    refine ⟨hsz, fun p hp => ?_, by show ([133, 117, 124] : List Nat).Nodup; decide, hG, fun p hp => ?_⟩
    · simp only [List.mem_cons, List.not_mem_nil, or_false] at hp
      rcases hp with rfl | rfl | rfl
      · exact hol
      · exact h117
      · exact h124
    · simp only [List.mem_cons, List.not_mem_nil, or_false] at hp
      rcases hp with rfl | rfl | rfl <;> kernel_rfl
  have hl : vals.length ≤ 1000 := by rw [e1, List.length_map, e2]; omega
  have h5 : vals.take 5 = (zs.take 5).map (fun z => Value.int z.1 z.2) := by rw [e1, List.map_take]
  have hz5 : (zs.take 5).length ≤ 50 := by rw [List.length_take]; omega
  refine wpAny_call (codeAny_mono (c_la w 133 zs hz5 vals hl h5 0 callerA hA h 134 tk g d os D) fun r s' hp => ?_)
  obtain ⟨o, h', sz', tk', rfl, rfl, D', S', _⟩ := hp
  have k133 : h'.get? 133 = some (lst vals 0) := D'.has (133, lst vals 0) (.head _)
  have k117 : h'.get? 117 = some (tbO o.1) := D'.has (117, tbO o.1) (.tail _ (.head _))
  have k124 : h'.get? 124 = some (tbO o.2) := D'.has (124, tbO o.2) (.tail _ (.tail _ (.head _)))
  have keep : ∀ b ob, h.get? b = some ob → b ≠ 117 → b ≠ 124 → h'.get? b = some ob := fun b ob hb n1 n2 => by
    by_cases hb3 : b = 133
    · subst hb3
      have hol' : h.get? 133 = some (lst vals 0) := hol
      rw [hol'] at hb
      cases hb
      exact k133
    · refine S'.keep b ob hb fun x hx => ?_
      simp only [List.mem_cons, List.not_mem_nil, or_false] at hx
      rcases hx with rfl | rfl | rfl
      · exact fun e => hb3 e.symm
      · exact fun e => n1 e.symm
      · exact fun e => n2 e.symm
  refine ⟨rfl, ⟨fun b ob hb => ?_, fun b ob hb => ?_⟩, rfl, hg⟩
  · by_cases n1 : b = 117
    · subst n1
      have h1 : h.get? 117 = some (tbO []) := h117
      rw [h1] at hb
      cases hb
      refine .inr (.inl ⟨⟨121, _, _, hG 121 (o121 w.params) (by kernel_rfl), rfl, rfl, rfl⟩, rfl, #[], ⟨o.1⟩, rfl, ?_⟩)
      rw [k117]
      show some (tbO o.1) = some (⟨.none, none, .fields (#[] ++ ⟨o.1⟩), #[]⟩ : Obj)
      rw [Array.empty_append]
      rfl
    · by_cases n2 : b = 124
      · subst n2
        have h1 : h.get? 124 = some (tbO []) := h124
        rw [h1] at hb
        cases hb
        refine .inr (.inl ⟨⟨126, _, _, hG 126 (o126 w.params) (by kernel_rfl), rfl, rfl, rfl⟩, rfl, #[], ⟨o.2⟩, rfl, ?_⟩)
        rw [k124]
        show some (tbO o.2) = some (⟨.none, none, .fields (#[] ++ ⟨o.2⟩), #[]⟩ : Obj)
        rw [Array.empty_append]
        rfl
      · exact .inl (keep b ob hb n1 n2)
  · by_cases n1 : b = 117
    · subst n1; exact ⟨_, k117⟩
    · by_cases n2 : b = 124
      · subst n2; exact ⟨_, k124⟩
      · exact ⟨_, keep b ob hb n1 n2⟩
end Mine
end
set_option maxRecDepth 100000 in
set_option maxHeartbeats 8000000 in
theorem PySem.Challenge.cw_nb0112_02_holds : PySem.Challenge.rw_nb0112_02.Holds := by
  w_on
  o_law
  z_head
  case hw => w_witness2
  k_fill
  intro w s0 s1 mg mb G y fa o pm cd doc dV kV ho hd hcd hD hmg hg args vals as L hpre hlay hrd hwl hlo
  z_open y L KX ZH ZN ZT
  refine Ground.open G ?_
  intro T B D TE TW
  wrow_args hpre hlay hrd hwl hlo
  obtain ⟨hat, hsz⟩ := script_at L
  have htk := script_toks L ZT
  rw [ZN] at hat hsz
  subst hat
  x_fa T KX hmg
  all_lens
  z_lists L
  rename_i hi9 hb9 hol9 hsz9
  have hG : ∀ a o, Mine.G w.params a = some o → s1.heap.get? a = some o := by
    intro a
    unfold Mine.G
    repeat' (first | exact Mine.none_all | refine Mine.pick_all ?_ ?_ ?_)
    all_goals (intro ea x e; subst ea; cases e; exact kt_at ZH (by kernel_rfl))
  refine wpAny_mono (Mine.walk_all w s1 _ _ hg hsz (by omega) hi9 hol9 hG (kt_at ZH (by kernel_rfl)) (kt_at ZH (by kernel_rfl))) (fun v s' h => ?_) (fun _ _ h => h.elim)
  obtain ⟨rfl, hK, hos, hgs⟩ := h
  exact ⟨.inl ⟨_, .bool true, [], rfl, fun cls => rfl, .bool true, by kernel_rfl, fun _ => ⟨List.nodup_nil, fun a ha => nomatch ha⟩⟩, hK, hos, .of_eq hgs⟩
